import JvmDerived
import JvmDerived.Pilot.@@N@@Statement
import JvmDerived.Pilot.@@N@@Code
set_option linter.unusedVariables false
set_option linter.unusedSimpArgs false
namespace Jvm.Pilot.@@N@@
open Jvm Jvm.ClassFile Sem Op Lib Jvm.Free Jvm.Stand Jvm.LawKit Jvm.RoadKit Bundle Jvm.Pilot.@@N@@.Jvm.D
/-! OWN KIT: a walk as a goal that goes forward (OGets), and a list of the fresh objects with what they hold (OView) -/
section OwnKit
variable {p : Program} {l : Launch} {e : Env} {R : Room} {s : State} {m : MethodId} {args : Array Value} {below : List Frame} {meth : Method} {c : Code} {T : State} {locs : List Loc} {cells slots : Nat} {Z : State} {a0 : Array Value} {h h' : Heap} {n0 : Nat}
/-- from U the run comes to an end that P allows -/
def OGets (p : Program) (e : Env) (below : List Frame) (P : State → Outcome → Prop) (U : State) : Prop := ∃ s₂ o, Steps p.tables e below U s₂ ∧ s₂.status = .running ∧ Ended s₂ below o ∧ P s₂ o
def OLeaves (s : State) (Q : Option Value → Heap → List Loc → Prop) (k n : Nat) (t : State) (o : Outcome) : Prop := ∃ v L, o = .returned v ∧ Q v t.heap L ∧ FrameEnd s o t L k n
theorem OGets.step {P : State → Outcome → Prop} {U U' : State} (k : ∀ t, Steps p.tables e below U' t → Steps p.tables e below U t) (g : OGets p e below P U') : OGets p e below P U := by
  obtain ⟨t, o, h1, h2⟩ := g
  exact ⟨t, o, k t h1, h2⟩
theorem OGets.after {P : State → Outcome → Prop} {U U' : State} (k : Steps p.tables e below U U') (g : OGets p e below P U') : OGets p e below P U := by
  obtain ⟨t, o, h1, h2⟩ := g
  exact ⟨t, o, k.trans h1, h2⟩
theorem OGets.enter {P : State → Outcome → Prop} {g g' : JFrame} (q : g = g') (k : OGets p e below P (T.setTop g')) : OGets p e below P (T.setTop g) := q ▸ k
theorem OGets.cut {P : State → Outcome → Prop} {U U' : State} (k : OGets p e below P U') (f : OGets p e below P U' → OGets p e below P U) : OGets p e below P U := f k
theorem OGets.retN (X : Stand p l e R s m args below meth c T locs cells slots) (hx : p.tables.exec = Jvm.exec) (hk : meth.locks = false) {t : FieldType} (hret : meth.sig.returnType = some t) (ht : t = .boolean ∨ t = .byte ∨ t = .char ∨ t = .short) {pc : Nat} {Ls : Array Slot} {z : Int32} {rest : List Value}
    (hd : decode c.code pc = .ok (.ireturn, 1)) {Q : Option Value → Heap → List Loc → Prop} {k n : Nat} (hc : cells ≤ k) (hs : slots ≤ n) (hQ : Q (some (.int (nar t z))) T.heap locs) : OGets p e below (OLeaves s Q k n) (T.setTop (mkF m pc Ls (.int z :: rest))) := by
  obtain ⟨fs, hr, hrun, hended, hW, hsame⟩ := X.leave (v := some (.int (nar t z))) (fun h => by rw [hret] at h; cases h) hk
  exact ⟨_, _, Jvm.RoadKit.retN X hx hret ht hd hr, hrun, hended, _, _, rfl, hQ, ⟨_, rfl⟩, hW, hsame.mono hc hs⟩
theorem OGets.retI (X : Stand p l e R s m args below meth c T locs cells slots) (hx : p.tables.exec = Jvm.exec) (hk : meth.locks = false) (hret : meth.sig.returnType = some .int) {pc : Nat} {Ls : Array Slot} {z : Int32} {rest : List Value}
    (hd : decode c.code pc = .ok (.ireturn, 1)) {Q : Option Value → Heap → List Loc → Prop} {k n : Nat} (hc : cells ≤ k) (hs : slots ≤ n) (hQ : Q (some (.int z)) T.heap locs) : OGets p e below (OLeaves s Q k n) (T.setTop (mkF m pc Ls (.int z :: rest))) := by
  obtain ⟨fs, hr, hrun, hended, hW, hsame⟩ := X.leave (v := some (.int z)) (fun h => by rw [hret] at h; cases h) hk
  exact ⟨_, _, Jvm.RoadKit.retOut X hx hret rfl (Or.inl ⟨rfl, Or.inl rfl, _, rfl⟩) hd hr, hrun, hended, _, _, rfl, hQ, ⟨_, rfl⟩, hW, hsame.mono hc hs⟩
theorem OGets.retJ (X : Stand p l e R s m args below meth c T locs cells slots) (hx : p.tables.exec = Jvm.exec) (hk : meth.locks = false) (hret : meth.sig.returnType = some .long) {pc : Nat} {Ls : Array Slot} {z : Int64} {rest : List Value}
    (hd : decode c.code pc = .ok (.lreturn, 1)) {Q : Option Value → Heap → List Loc → Prop} {k n : Nat} (hc : cells ≤ k) (hs : slots ≤ n) (hQ : Q (some (.long z)) T.heap locs) : OGets p e below (OLeaves s Q k n) (T.setTop (mkF m pc Ls (.long z :: rest))) := by
  obtain ⟨fs, hr, hrun, hended, hW, hsame⟩ := X.leave (v := some (.long z)) (fun h => by rw [hret] at h; cases h) hk
  exact ⟨_, _, Jvm.RoadKit.retOut X hx hret rfl (Or.inr (Or.inl ⟨rfl, rfl, _, rfl⟩)) hd hr, hrun, hended, _, _, rfl, hQ, ⟨_, rfl⟩, hW, hsame.mono hc hs⟩
theorem OGets.retA (X : Stand p l e R s m args below meth c T locs cells slots) (hx : p.tables.exec = Jvm.exec) (hk : meth.locks = false) {t : FieldType} (hret : meth.sig.returnType = some t) (ht : t.isReference = true) {pc : Nat} {Ls : Array Slot} {w : Value} {rest : List Value} (hw : w.isRef = true) (hn : narrow t w = w)
    (hd : decode c.code pc = .ok (.areturn, 1)) {Q : Option Value → Heap → List Loc → Prop} {k n : Nat} (hc : cells ≤ k) (hs : slots ≤ n) (hQ : Q (some w) T.heap locs) : OGets p e below (OLeaves s Q k n) (T.setTop (mkF m pc Ls (w :: rest))) := by
  obtain ⟨fs, hr, hrun, hended, hW, hsame⟩ := X.leave (v := some w) (fun h => by rw [hret] at h; cases h) hk
  exact ⟨_, _, Jvm.RoadKit.retOut X hx hret hn (Or.inr (Or.inr (Or.inr (Or.inr ⟨rfl, ht, hw⟩)))) hd hr, hrun, hended, _, _, rfl, hQ, ⟨_, rfl⟩, hW, hsame.mono hc hs⟩
theorem OGets.retV (X : Stand p l e R s m args below meth c T locs cells slots) (hx : p.tables.exec = Jvm.exec) (hk : meth.locks = false) (hret : meth.sig.returnType = none) {pc : Nat} {Ls : Array Slot}
    (hd : decode c.code pc = .ok (.return_, 1)) {Q : Option Value → Heap → List Loc → Prop} {k n : Nat} (hc : cells ≤ k) (hs : slots ≤ n) (hQ : Q none T.heap locs) : OGets p e below (OLeaves s Q k n) (T.setTop (mkF m pc Ls [])) := by
  obtain ⟨fs, hr, hrun, hended, hW, hsame⟩ := X.leave (v := none) (fun _ => rfl) hk
  exact ⟨_, _, X.returnOut hx hret hd hr, hrun, hended, _, _, rfl, hQ, ⟨_, rfl⟩, hW, hsame.mono hc hs⟩
/-- an object (class, fields, their values) or an array (what it is of, its components) -/
abbrev OObj : Type := Sum (String × List (String × String × String) × List Value) (FieldType × List Value)
def OHold (Z : State) (h : Heap) (a : Addr) (o : OObj) : Prop :=
  (∀ q, o = Sum.inl q → Exa Z h a q.1 ∧ q.2.1.Pairwise (fun x y => Jvm.RoadKit.slotOf Z x.1 x.2.1 x.2.2 ≠ Jvm.RoadKit.slotOf Z y.1 y.2.1 y.2.2) ∧ ∀ (j : Nat) (k : String × String × String) (v : Value), q.2.1[j]? = some k → q.2.2[j]? = some v → Fld Z h a k.1 k.2.1 k.2.2 v) ∧
  (∀ q, o = Sum.inr q → ∃ cl : Cell, Arr Z h a cl q.1 ∧ cl.slots.toList = q.2 ∧ ∀ C, q.1 = .object C → Ovr Z cl.cls C)
variable {a b : Addr} {o : OObj} {sl : Nat} {v : Value} {os : List (Addr × OObj)} {C : String} {ns : List (String × String × String)} {vs : List Value} {ty : FieldType}
theorem OHold.other (W : Wr h h' a sl v) (hne : b ≠ a) (H : OHold Z h b o) : OHold Z h' b o := by
  refine ⟨fun q hq => ?_, fun q hq => ?_⟩
  · obtain ⟨h1, h2, h3⟩ := H.1 q hq
    exact ⟨h1.wr W, h2, fun j k w e1 e2 => (h3 j k w e1 e2).other W (Or.inl hne)⟩
  · obtain ⟨cl, h1, h2⟩ := H.2 q hq
    exact ⟨cl, h1.other W hne, h2⟩
theorem OHold.ext (E : Ext h h') (H : OHold Z h b o) : OHold Z h' b o := by
  refine ⟨fun q hq => ?_, fun q hq => ?_⟩
  · obtain ⟨h1, h2, h3⟩ := H.1 q hq
    exact ⟨h1.ext E, h2, fun j k w e1 e2 => (h3 j k w e1 e2).ext E⟩
  · obtain ⟨cl, h1, h2⟩ := H.2 q hq
    exact ⟨cl, h1.ext E, h2⟩
theorem OHold.obj (h1 : Exa Z h a C) (h2 : ns.Pairwise (fun x y => Jvm.RoadKit.slotOf Z x.1 x.2.1 x.2.2 ≠ Jvm.RoadKit.slotOf Z y.1 y.2.1 y.2.2)) (h3 : ∀ (j : Nat) (k : String × String × String) (v : Value), ns[j]? = some k → vs[j]? = some v → Fld Z h a k.1 k.2.1 k.2.2 v) : OHold Z h a (Sum.inl (C, ns, vs)) :=
  ⟨fun q hq => (by cases hq; exact ⟨h1, h2, h3⟩), fun q hq => (by cases hq)⟩
theorem OHold.arr {cl : Cell} (h1 : Arr Z h a cl ty) (h2 : cl.slots.toList = vs) (h3 : ∀ C, ty = .object C → Ovr Z cl.cls C) : OHold Z h a (Sum.inr (ty, vs)) :=
  ⟨fun q hq => (by cases hq), fun q hq => (by cases hq; exact ⟨cl, h1, h2, h3⟩)⟩
theorem OHold.putF (H : OHold Z h a (Sum.inl (C, ns, vs))) {j : Nat} {k : String × String × String} (hj : ns[j]? = some k) (W : Wr h h' a (Jvm.RoadKit.slotOf Z k.1 k.2.1 k.2.2) v) : OHold Z h' a (Sum.inl (C, ns, vs.set j v)) := by
  obtain ⟨h1, h2, h3⟩ := H.1 _ rfl
  refine OHold.obj (h1.wr W) h2 fun i k' w e1 e2 => ?_
  by_cases q : j = i
  · subst q
    rw [hj] at e1; cases e1
    rw [List.getElem?_set] at e2
    split at e2
    · split at e2
      · rename_i hlt
        cases e2
        exact (h3 j k _ hj (List.getElem?_eq_getElem hlt)).same W
      · cases e2
    · exact absurd rfl ‹_›
  · rw [List.getElem?_set_ne q] at e2
    refine (h3 i k' w e1 e2).other W (Or.inr ?_)
    obtain ⟨hi, e1⟩ := List.getElem?_eq_some_iff.mp e1
    obtain ⟨hj', hj⟩ := List.getElem?_eq_some_iff.mp hj
    have P := List.pairwise_iff_getElem.mp h2
    subst e1 hj
    rcases Nat.lt_or_gt_of_ne q with q | q
    · exact (P j i hj' hi q).symm
    · exact P i j hi hj' q
theorem OHold.putA (H : OHold Z h a (Sum.inr (ty, vs))) {j : Nat} (W : Wr h h' a j v) : OHold Z h' a (Sum.inr (ty, vs.set j v)) := by
  obtain ⟨cl, h1, h2, h3⟩ := H.2 _ rfl
  exact OHold.arr (h1.same W) (by show (cl.slots.setIfInBounds j v).toList = vs.set j v; rw [Array.toList_setIfInBounds]; exact congrArg (fun z => z.set j v) h2) h3
/-- the objects made since the law began, as a list: no two at one place, none old, each as said -/
def OView (Z : State) (n0 : Nat) (h : Heap) (os : List (Addr × OObj)) : Prop := (os.map (·.1)).Nodup ∧ ∀ q ∈ os, n0 ≤ q.1 ∧ q.1 < h.size ∧ OHold Z h q.1 q.2
theorem OView.nil (Z : State) (n0 : Nat) (h : Heap) : OView Z n0 h [] := ⟨List.nodup_nil, fun q hq => by cases hq⟩
theorem OView.perm {os' : List (Addr × OObj)} (V : OView Z n0 h os) (P : os.Perm os') : OView Z n0 h os' := ⟨(P.map _).nodup_iff.mp V.1, fun q hq => V.2 q (P.mem_iff.mpr hq)⟩
theorem own_bring {α : Type} : ∀ (os : List α) (i : Nat) (q : α), os[i]? = some q → os.Perm (q :: os.eraseIdx i)
  | [], i, q, hq => by cases hq
  | x :: t, 0, q, hq => by cases hq; exact List.Perm.refl _
  | x :: t, i + 1, q, hq => (List.Perm.cons x (own_bring t i q hq)).trans (List.Perm.swap q x _)
theorem own_set {α : Type} : ∀ (os : List α) (i : Nat) (q r : α), os[i]? = some q → (r :: os.eraseIdx i).Perm (os.set i r)
  | [], i, q, r, hq => by cases hq
  | x :: t, 0, q, r, hq => List.Perm.refl _
  | x :: t, i + 1, q, r, hq => (List.Perm.swap x r _).trans (List.Perm.cons x (own_set t i q r hq))
theorem OView.bring (V : OView Z n0 h os) (i : Nat) {q : Addr × OObj} (hq : os[i]? = some q) : OView Z n0 h (q :: os.eraseIdx i) := V.perm (own_bring os i q hq)
theorem OView.at (V : OView Z n0 h os) (i : Nat) {q : Addr × OObj} (hq : os[i]? = some q) : n0 ≤ q.1 ∧ q.1 < h.size ∧ OHold Z h q.1 q.2 := V.2 q (List.mem_of_getElem? hq)
theorem OView.old (V : OView Z n0 h os) (i : Nat) {a : Addr} {o : OObj} (hq : os[i]? = some (a, o)) : n0 ≤ a := (V.at i hq).1
theorem OView.big (V : OView Z n0 h os) (i : Nat) {q : Addr × OObj} (hq : os[i]? = some q) : n0 ≤ h.size := Nat.le_trans (V.at i hq).1 (Nat.le_of_lt (V.at i hq).2.1)
theorem OView.exa (V : OView Z n0 h os) (i : Nat) {a : Addr} (hq : os[i]? = some (a, Sum.inl (C, ns, vs))) : Exa Z h a C := ((V.at i hq).2.2.1 _ rfl).1
theorem OView.fld (V : OView Z n0 h os) (i : Nat) {a : Addr} (hq : os[i]? = some (a, Sum.inl (C, ns, vs))) (j : Nat) {O n d : String} (hj : ns[j]? = some (O, n, d)) (hv : vs[j]? = some v) : Fld Z h a O n d v := ((V.at i hq).2.2.1 _ rfl).2.2 j _ v hj hv
theorem OView.ovr (V : OView Z n0 h os) (i : Nat) {a : Addr} (hq : os[i]? = some (a, Sum.inr (ty, vs))) : ∃ cl : Cell, Arr Z h a cl ty ∧ cl.slots.toList = vs ∧ ∀ C, ty = .object C → Ovr Z cl.cls C := (V.at i hq).2.2.2 _ rfl
theorem OView.arr (V : OView Z n0 h os) (i : Nat) {a : Addr} (hq : os[i]? = some (a, Sum.inr (ty, vs))) : ∃ cl : Cell, Arr Z h a cl ty ∧ cl.slots.toList = vs := by
  obtain ⟨cl, h1, h2, -⟩ := V.ovr i hq
  exact ⟨cl, h1, h2⟩
theorem OView.tail {q : Addr × OObj} (V : OView Z n0 h (q :: os)) : OView Z n0 h os := ⟨(List.nodup_cons.mp V.1).2, fun r hr => V.2 r (List.mem_cons_of_mem _ hr)⟩
theorem OView.up (V : OView Z n0 h os) (W : Wr h h' a sl v) (i : Nat) {o o' : OObj} (hq : os[i]? = some (a, o)) (H : OHold Z h' a o') : OView Z n0 h' (os.set i (a, o')) := by
  have V1 := V.bring i hq
  have V2 : OView Z n0 h' ((a, o') :: os.eraseIdx i) := by
    refine ⟨V1.1, fun q hq' => ?_⟩
    rcases List.mem_cons.mp hq' with rfl | hq'
    · exact ⟨(V.at i hq).1, by rw [W.size]; exact (V.at i hq).2.1, H⟩
    · obtain ⟨h1, h2, h3⟩ := V1.2 q (List.mem_cons_of_mem _ hq')
      refine ⟨h1, by rw [W.size]; exact h2, h3.other W fun e => ?_⟩
      have := (List.nodup_cons.mp V1.1).1
      exact this (List.mem_map.mpr ⟨q, hq', e⟩)
  exact V2.perm (own_set os i _ _ hq)
theorem OView.putF (V : OView Z n0 h os) (i : Nat) (hq : os[i]? = some (a, Sum.inl (C, ns, vs))) (j : Nat) {O n d : String} (hj : ns[j]? = some (O, n, d)) (W : Wr h h' a (Jvm.RoadKit.slotOf Z O n d) v) : OView Z n0 h' (os.set i (a, Sum.inl (C, ns, vs.set j v))) := V.up W i hq ((V.at i hq).2.2.putF hj W)
theorem OView.putA (V : OView Z n0 h os) (i : Nat) (hq : os[i]? = some (a, Sum.inr (ty, vs))) {j : Nat} (W : Wr h h' a j v) : OView Z n0 h' (os.set i (a, Sum.inr (ty, vs.set j v))) := V.up W i hq ((V.at i hq).2.2.putA W)
theorem OView.ext (V : OView Z n0 h os) (E : Ext h h') : OView Z n0 h' os := ⟨V.1, fun q hq => ⟨(V.2 q hq).1, Nat.lt_of_lt_of_le (V.2 q hq).2.1 E.1, (V.2 q hq).2.2.ext E⟩⟩
theorem OView.cons (V : OView Z n0 h os) (hn : n0 ≤ h.size) (E : Ext h h') (hlt : h.size < h'.size) (H : OHold Z h' h.size o) : OView Z n0 h' ((h.size, o) :: os) := by
  refine ⟨List.nodup_cons.mpr ⟨fun hm => ?_, V.1⟩, fun q hq => ?_⟩
  · obtain ⟨q, h1, h2⟩ := List.mem_map.mp hm
    exact Nat.lt_irrefl _ (h2 ▸ (V.2 q h1).2.1)
  · rcases List.mem_cons.mp hq with rfl | hq
    · exact ⟨hn, hlt, H⟩
    · exact (V.ext E).2 q hq
theorem own_pair (hL : ∀ x ∈ ns, Laid Z a0 C x.1 x.2.1 x.2.2) (hd : ∀ x ∈ ns, (parseFieldDescriptor x.2.2).isSome = true) (hn : ns.Pairwise (fun x y => x.2.1 ≠ y.2.1)) : ns.Pairwise (fun x y => Jvm.RoadKit.slotOf Z x.1 x.2.1 x.2.2 ≠ Jvm.RoadKit.slotOf Z y.1 y.2.1 y.2.2) :=
  hn.imp_of_mem fun {x y} hx hy hne => by
    obtain ⟨t, ht⟩ := Option.isSome_iff_exists.mp (hd x hx)
    obtain ⟨t', ht'⟩ := Option.isSome_iff_exists.mp (hd y hy)
    exact slot_ne (hL x hx) (hL y hy) hne ht ht'
/-- a fresh object, as 'new' leaves it -/
theorem OView.newObj (V : OView Z n0 h os) (hn : n0 ≤ h.size) (E : Ext h h') (A : Exa Z h' h.size C) (D : ∀ {O nm d : String} {ty : FieldType}, Laid Z a0 C O nm d → parseFieldDescriptor d = some ty → Fld Z h' h.size O nm d (defaultValue ty))
    (hL : ∀ x ∈ ns, Laid Z a0 C x.1 x.2.1 x.2.2) (hd : ns.map (fun x => (parseFieldDescriptor x.2.2).map defaultValue) = vs.map some) (hnm : ns.Pairwise (fun x y => x.2.1 ≠ y.2.1)) : OView Z n0 h' ((h.size, Sum.inl (C, ns, vs)) :: os) := by
  have hs : ∀ x ∈ ns, (parseFieldDescriptor x.2.2).isSome = true := fun x hx => by
    have h1 : (parseFieldDescriptor x.2.2).map defaultValue ∈ vs.map some := hd ▸ List.mem_map.mpr ⟨x, hx, rfl⟩
    obtain ⟨w, -, h2⟩ := List.mem_map.mp h1
    cases hp : parseFieldDescriptor x.2.2 with
    | none => rw [hp] at h2; cases h2
    | some t => rfl
  refine V.cons hn E A.lt (OHold.obj A (own_pair hL hs hnm) fun j k w e1 e2 => ?_)
  have h1 : (ns.map (fun x => (parseFieldDescriptor x.2.2).map defaultValue))[j]? = some ((parseFieldDescriptor k.2.2).map defaultValue) := by rw [List.getElem?_map, e1]; rfl
  have h2 : (vs.map some)[j]? = some (some w) := by rw [List.getElem?_map, e2]; rfl
  rw [hd, h2] at h1
  have h3 := Option.some.inj h1
  cases hp : parseFieldDescriptor k.2.2 with
  | none => rw [hp] at h3; cases h3
  | some t =>
    rw [hp] at h3
    cases Option.some.inj h3
    exact D (hL k (List.mem_of_getElem? e1)) hp
/-- a fresh array -/
theorem OView.newArr (V : OView Z n0 h os) (hn : n0 ≤ h.size) (E : Ext h h') {cA : ClassId} {z : Int32} (A : Arr Z h' h.size (newA cA ty z) ty) (k : Nat) (hk : z.toNatClampNeg = k) (hno : ∀ C, ty ≠ .object C := by intro C h; cases h) : OView Z n0 h' ((h.size, Sum.inr (ty, List.replicate k (defaultValue ty))) :: os) := by
  refine V.cons hn E A.lt (OHold.arr A ?_ (fun C hC => absurd hC (hno C)))
  rw [← hk]; simp [newA]
theorem OView.newArrR (V : OView Z n0 h os) (hn : n0 ≤ h.size) (E : Ext h h') {cA : ClassId} {z : Int32} {C : String} (A : Arr Z h' h.size (newA cA (.object C) z) (.object C)) (O : Ovr Z cA C) (k : Nat) (hk : z.toNatClampNeg = k) : OView Z n0 h' ((h.size, Sum.inr (.object C, List.replicate k .null)) :: os) := by
  refine V.cons hn E A.lt (OHold.arr A ?_ (fun C' hC => by cases hC; exact O))
  rw [← hk]; simp [newA, defaultValue]
theorem own_inb {cl : Cell} {vs : List Value} (hs : cl.slots.toList = vs) {j : Int32} (k : Nat) (hj : j.toInt = (k : Int)) (hk : k < vs.length) : ¬ (j < 0 ∨ cl.slots.size ≤ j.toNatClampNeg) := by
  have h1 : cl.slots.size = vs.length := by rw [← hs]; simp
  have e0 : (0 : Int32).toInt = 0 := rfl
  rw [h1]
  simp only [Int32.lt_iff_toInt_lt, Int32.toNatClampNeg, hj, e0]
  omega
theorem own_clamp {j : Int32} (k : Nat) (hj : j.toInt = (k : Int)) : j.toNatClampNeg = k := by simp only [Int32.toNatClampNeg, hj]; omega
theorem own_get {cl : Cell} {vs : List Value} (hs : cl.slots.toList = vs) {j : Int32} (k : Nat) (hj : j.toInt = (k : Int)) {v : Value} (hv : vs[k]? = some v) : cl.slots[j.toNatClampNeg]? = some v := by
  rw [own_clamp k hj, ← Array.getElem?_toList, hs]; exact hv
theorem own_wr {vs : List Value} {j : Int32} (k : Nat) (hj : j.toInt = (k : Int)) (W : Wr h h' a j.toNatClampNeg v) : Wr h h' a k v := by rw [own_clamp k hj] at W; exact W
theorem own_len {cl : Cell} {vs : List Value} (hs : cl.slots.toList = vs) : cl.slots.size = vs.length := by rw [← hs]; simp
end OwnKit
/-! OWN KIT, third part: arrays of ints and longs as lists, read and written at a place that is an int -/
section OwnSym
variable {p : Program} {l : Launch} {e : Env} {R : Room} {s : State} {m : MethodId} {args : Array Value} {below : List Frame} {meth : Method} {c : Code} {T : State} {locs : List Loc} {cells slots : Nat} {Z : State} {a0 : Array Value} {h h' : Heap} {n0 : Nat}
def gi (C : List Int32) (j : Int32) : Int32 := C.getD j.toNatClampNeg 0
def si (C : List Int32) (j x : Int32) : List Int32 := C.set j.toNatClampNeg x
def gj (C : List Int64) (j : Int32) : Int64 := C.getD j.toNatClampNeg 0
def sj (C : List Int64) (j : Int32) (x : Int64) : List Int64 := C.set j.toNatClampNeg x
theorem si_len (C : List Int32) (j x : Int32) : (si C j x).length = C.length := by simp [si]
theorem sj_len (C : List Int64) (j : Int32) (x : Int64) : (sj C j x).length = C.length := by simp [sj]
/-- the place lies in an array of n -/
def inb (n : Nat) (j : Int32) : Prop := 0 ≤ j.toInt ∧ j.toInt < (n : Int)
instance (n : Nat) (j : Int32) : Decidable (inb n j) := by unfold inb; exact inferInstance
theorem own_sin {cl : Cell} {vs : List Value} (hs : cl.slots.toList = vs) {n : Nat} (hl : vs.length = n) {j : Int32} (hj : inb n j) : ¬ (j < 0 ∨ cl.slots.size ≤ j.toNatClampNeg) := by
  have h1 : cl.slots.size = n := by rw [← hl, ← hs]; simp
  have e0 : (0 : Int32).toInt = 0 := rfl
  obtain ⟨h2, h3⟩ := hj
  rw [h1]
  simp only [Int32.lt_iff_toInt_lt, Int32.toNatClampNeg, e0]
  omega
theorem own_sgetI {cl : Cell} {C : List Int32} (hs : cl.slots.toList = C.map Value.int) {n : Nat} (hl : C.length = n) {j : Int32} (hj : inb n j) : cl.slots[j.toNatClampNeg]? = some (.int (gi C j)) := by
  obtain ⟨h2, h3⟩ := hj
  have h4 : j.toNatClampNeg < C.length := by simp only [Int32.toNatClampNeg]; omega
  rw [← Array.getElem?_toList, hs, List.getElem?_map, gi, List.getD_eq_getElem?_getD, List.getElem?_eq_getElem h4]; rfl
theorem own_sgetJ {cl : Cell} {C : List Int64} (hs : cl.slots.toList = C.map Value.long) {n : Nat} (hl : C.length = n) {j : Int32} (hj : inb n j) : cl.slots[j.toNatClampNeg]? = some (.long (gj C j)) := by
  obtain ⟨h2, h3⟩ := hj
  have h4 : j.toNatClampNeg < C.length := by simp only [Int32.toNatClampNeg]; omega
  rw [← Array.getElem?_toList, hs, List.getElem?_map, gj, List.getD_eq_getElem?_getD, List.getElem?_eq_getElem h4]; rfl
theorem OView.putI (V : OView Z n0 h os) (i : Nat) {a : Addr} {C : List Int32} (hq : os[i]? = some (a, Sum.inr (.int, C.map Value.int))) {j x : Int32} (W : Wr h h' a j.toNatClampNeg (.int x)) : OView Z n0 h' (os.set i (a, Sum.inr (.int, (si C j x).map Value.int))) := by
  have := V.putA i hq W
  rw [← List.map_set] at this
  exact this
theorem OView.putJ (V : OView Z n0 h os) (i : Nat) {a : Addr} {C : List Int64} (hq : os[i]? = some (a, Sum.inr (.long, C.map Value.long))) {j : Int32} {x : Int64} (W : Wr h h' a j.toNatClampNeg (.long x)) : OView Z n0 h' (os.set i (a, Sum.inr (.long, (sj C j x).map Value.long))) := by
  have := V.putA i hq W
  rw [← List.map_set] at this
  exact this
theorem OGets.cutI {P : State → Outcome → Prop} {U : State} (C : Int32 → Prop) {f : Int32 → State} (k : ∀ t, C t → OGets p e below P (f t)) (g : (∀ t, C t → OGets p e below P (f t)) → OGets p e below P U) : OGets p e below P U := g k
theorem own_mvM {own host : String} {index : Nat} {y : MethodName} (hZ : Z.Warmed39 s.vm) (w : (Cond.methodLinkNest own index y host).before a0 Z = true) : (Cond.methodLinkNest own index y host).before args s = true := (Cond.methodLinkNest_wide hZ w :)
/-- a private method of a nest mate, by its contract -/
theorem own_nest (X : Stand p l e R s m args below meth c T locs cells slots) (hexec : p.tables.exec = Jvm.exec) {own host : String} {index : Nat} {y : MethodName} {bytes : ByteArray} {maxL : Nat} {ret : Option FieldType} {kk : Nat}
    (hown : s.vm.findClass own = some m.cls) (hlink : (Cond.methodLinkNest own index y host).before args s = true) (hinst : (Cond.instanceMethod y).before args s = true) (hi : (Cond.instantiable y.cls kk).before args s = true)
    (hpriv : s.PrivateAt y) (hcode : (Cond.code y bytes maxL ret).before args s = true) (hy : y.cls ≠ "java/lang/invoke/MethodHandle" ∧ y.cls ≠ "java/lang/invoke/VarHandle")
    {W : Nat} {Pre : Pt → Array Value → Prop} {Post : Pt → Array Value → Option Value → Pt → Prop} (hK : Back l R p e below s args y 3 W Pre Post)
    {g : JFrame} (hg : g.method = m) (hsize : g.locals.size = c.maxLocals) {a : Addr} {cell : Cell} (hcell : T.heap[a]? = some cell) (hobj : ∀ q, cell.vm ≠ .statics q)
    {argsL rest : List Value} (hlen : ∀ sig, parseMethodDescriptor y.desc = some sig → argsL.length = sig.parameters.length)
    (hstack : g.stack = argsL.reverse ++ .ref a :: rest) (hW : 2 * g.monitorRoom + (rest.map fun v => v.category).sum ≤ W) (hdg : decode c.code g.pc = .ok (.invokevirtual index, 3))
    (hpre : ∀ vm₁, s.WarmedH vm₁ → Pre ⟨T.setVm vm₁, locs, cells, slots⟩ (.ref a :: argsL).toArray) :
    ∃ (v : Option Value) (vm₁ : Vm) (B : Pt), s.WarmedH vm₁ ∧ Stand p l e R s m args below meth c B.U B.locs B.cells B.slots ∧ Post ⟨T.setVm vm₁, locs, cells, slots⟩ (.ref a :: argsL).toArray v B ∧
      Steps p.tables e below (T.setTop g) (B.U.setTop { g with pc := g.pc + 3, stack := v.toList ++ rest }) := by
  obtain ⟨mk, methM, hnamed, hmethM, hstM, habM⟩ := Cond.instanceMethod_spec hinst
  obtain ⟨methM', cM, hmethM', -, -, -, -, -, -, hsigM⟩ := Cond.code_spec hnamed hcode
  cases hmethM.symm.trans hmethM'
  obtain ⟨cI, kI, i1, i2, i3, i4⟩ := Cond.instantiable_spec hi
  have hcls := findClass_of_methodNamed hnamed
  cases i1.symm.trans hcls
  have hselP : selectMethod e.platform s.vm cell.cls mk = .method mk := selectMethod_private hmethM (hpriv mk methM hnamed hmethM)
  have hni : kI.isInterface = false := (Bool.or_eq_false_iff.mp i4.1).1
  obtain ⟨vm₁, X₁, hstep₁⟩ := X.invokevirtualNest hexec hown hlink hnamed hmethM hstM i2 hni hy (a := a) (cell := cell) hcell hobj hselP hmethM habM i2 hni (g := g) hg (argsL := argsL) (rest := rest) (hlen _ hsigM) hstack hdg
  obtain ⟨v, B, X', hpost, hsteps⟩ := hK m meth c ⟨T.setVm vm₁, locs, cells, slots⟩ { g with stack := rest } (.invokevirtual index) mk (.ref a :: argsL).toArray X₁ hg hsize hdg hW (X₁.named hnamed) (hpre vm₁ X₁.warmed)
  exact ⟨v, vm₁, B, X₁.warmed, X', hpost, hstep₁ _ fun acts => by rw [doInvoke_state]; exact hsteps⟩
end OwnSym
def f_hi (p0 : Int32) (p1 : Int64) : Int32 := (if (2147483647 : Int64) < ((p0.toInt64) + p1) then ((2147483647 : Int64).toInt32) else (((p0.toInt64) + p1).toInt32))
theorem pn_0 : plainName "com/example/inya/inya/StateLayoutUnpackPinLaw" = true := by first | (simp [plainName, overriddenIn]; done) | decide +kernel
theorem dm2_0 : decode method_2_code 0 = .ok (.iload_n 0, 1) := by decide +kernel
theorem dm2_1 : decode method_2_code 1 = .ok (.i2l, 1) := by decide +kernel
theorem dm2_2 : decode method_2_code 2 = .ok (.lload_n 1, 1) := by decide +kernel
theorem dm2_3 : decode method_2_code 3 = .ok (.ladd, 1) := by decide +kernel
theorem dm2_4 : decode method_2_code 4 = .ok (.lstore_n 3, 1) := by decide +kernel
theorem dm2_5 : decode method_2_code 5 = .ok (.lload_n 3, 1) := by decide +kernel
theorem dm2_6 : decode method_2_code 6 = .ok (.ldc2_w 9, 3) := by decide +kernel
theorem dm2_9 : decode method_2_code 9 = .ok (.lcmp, 1) := by decide +kernel
theorem dm2_10 : decode method_2_code 10 = .ok (.ifCond .le 7, 3) := by decide +kernel
theorem dm2_13 : decode method_2_code 13 = .ok (.ldc2_w 9, 3) := by decide +kernel
theorem dm2_16 : decode method_2_code 16 = .ok (.lstore_n 3, 1) := by decide +kernel
theorem dm2_17 : decode method_2_code 17 = .ok (.lload_n 3, 1) := by decide +kernel
theorem dm2_18 : decode method_2_code 18 = .ok (.l2i, 1) := by decide +kernel
theorem dm2_19 : decode method_2_code 19 = .ok (.ireturn, 1) := by decide +kernel
theorem ef_hi (m : MethodId) (x0 : Int32) (x1 : Int64) : entryFrame m #[(.int x0), (.long x1)] 5 = mkF m 0 #[.val (.int x0), .val (.long x1), .second, .unset, .unset] [] := by first | (simp [entryFrame, mkF, argsToLocals, Value.category]; done) | rfl
def Q_hi (Z : State) (p0 : Int32) (p1 : Int64) (h0 : Heap) (n0 : Nat) (v : Option Value) (h : Heap) (L : List Loc) : Prop := v = some (.int (f_hi p0 p1)) ∧ L = [] ∧ h = h0
set_option maxRecDepth 65536 in
set_option maxHeartbeats 40000000 in
theorem rm_hi (l : Launch) (Z : State) (a0 : Array Value) (hw : ∀ d ∈ tables_1, d.before a0 Z = true) (ws : List Jvm.Cond) (p0 : Int32) (p1 : Int64) (h0 : Heap) (n0 : Nat) (Z0 : n0 ≤ h0.size) :
    MetFree l (⟨"com/example/inya/inya/StateLayoutUnpackPinLaw", "hiOf", "(IJ)I"⟩ : MethodName) (head1 (Jvm.Cond.code (⟨"com/example/inya/inya/StateLayoutUnpackPinLaw", "hiOf", "(IJ)I"⟩ : MethodName) method_2_code 5 (some .int) :: ws) ({ frames := 0, cells := 0, slots := 0, locals := 0 } : Room)) (fun a_ U => a_ = #[(.int p0), (.long p1)] ∧ Z.Warmed39 U.vm ∧ U.heap = h0) (fun _ _ _ _ _ => True) (fun _ U o U' => ∃ v L, o = .returned v ∧ Q_hi Z p0 p1 h0 n0 v U'.heap L ∧ FrameEnd U o U' L ({ frames := 0, cells := 0, slots := 0, locals := 0 } : Room).cells ({ frames := 0, cells := 0, slots := 0, locals := 0 } : Room).slots) := by
  refine MetFree.of_bodySF (plainFor_of_name pn_0) hisR ?_
  intro p e s m args below meth c s₁ Bd hml0 hP hK
  obtain ⟨rfl, hZ, hh⟩ := hP
  have hx := Bd.exec
  have hby := Bd.bytes
  have hlk : meth.locks = false := Bd.notSynchronized
  have hml : c.maxLocals = 5 := hml0
  have hown : s.vm.findClass "com/example/inya/inya/StateLayoutUnpackPinLaw" = some m.cls := findClass_of_methodNamed Bd.named
  have hnm := (name_of_methodNamed Bd.named Bd.method).1
  have X0 : Stand p l e ({ frames := 0, cells := 0, slots := 0, locals := 0 } : Room) s m #[(.int p0), (.long p1)] below meth c s₁ [] 0 0 := Stand.of_body Bd
  have e0 : s₁.heap = h0 := by rw [← hh, Bd.state]; rfl
  have N0 := Fr.nil n0
  have hv0 : f_hi p0 p1 = (if (2147483647 : Int64) < ((p0.toInt64) + p1) then ((2147483647 : Int64).toInt32) else (((p0.toInt64) + p1).toInt32)) := rfl
  show OGets p e below (OLeaves s (Q_hi Z p0 p1 h0 n0 ) ({ frames := 0, cells := 0, slots := 0, locals := 0 } : Room).cells ({ frames := 0, cells := 0, slots := 0, locals := 0 } : Room).slots) _
  refine OGets.enter (ef_hi m p0 p1) ?_
  show OGets p e below _ (s₁.setTop (mkF m 0 #[.val (.int p0), .val (.long p1), .second, .unset, .unset] []))
  refine OGets.step (fun _ => XS.iloadN X0.here hx rfl (hb hby dm2_0) rfl) ?_
  refine OGets.step (fun _ => XS.i2l X0.here hx rfl (hb hby dm2_1) rfl) ?_
  refine OGets.step (fun _ => XS.lloadN X0.here hx rfl (hb hby dm2_2) rfl) ?_
  refine OGets.step (fun _ => XS.ladd X0.here hx rfl (hb hby dm2_3) rfl) ?_
  refine OGets.step (fun _ => XS.lstoreN X0.here hx rfl (hb hby dm2_4) rfl (l' := #[.val (.int p0), .val (.long p1), .second, .val (.long ((p0.toInt64) + p1)), .second]) rfl) ?_
  refine OGets.step (fun _ => XS.lloadN X0.here hx rfl (hb hby dm2_5) rfl) ?_
  show OGets p e below _ (s₁.setTop (mkF m 6 #[.val (.int p0), .val (.long p1), .second, .val (.long ((p0.toInt64) + p1)), .second] [(.long ((p0.toInt64) + p1))]))
  refine OGets.step (fun _ => X0.ldc2Long hx hown (mvT hZ (hw _ (List.mem_of_getElem? (i := 5) rfl))) (g := (mkF m 6 #[.val (.int p0), .val (.long p1), .second, .val (.long ((p0.toInt64) + p1)), .second] [(.long ((p0.toInt64) + p1))])) rfl (hb hby dm2_6) _) ?_
  refine OGets.step (fun _ => XS.lcmp X0.here hx rfl (hb hby dm2_9) rfl) ?_
  by_cases hc10_1 : (2147483647 : Int64) < ((p0.toInt64) + p1)
  · refine OGets.step (fun _ => XS.ifNo X0.here hx rfl (hb hby dm2_10) rfl ((if0 _ _).trans (tlt ((lw_gt _ _).mpr hc10_1)).2.2.2)) ?_
    have hv2 := hv0.trans (if_pos hc10_1)
    show OGets p e below _ (s₁.setTop (mkF m 13 #[.val (.int p0), .val (.long p1), .second, .val (.long ((p0.toInt64) + p1)), .second] []))
    refine OGets.step (fun _ => X0.ldc2Long hx hown (mvT hZ (hw _ (List.mem_of_getElem? (i := 5) rfl))) (g := (mkF m 13 #[.val (.int p0), .val (.long p1), .second, .val (.long ((p0.toInt64) + p1)), .second] [])) rfl (hb hby dm2_13) _) ?_
    refine OGets.step (fun _ => XS.lstoreN X0.here hx rfl (hb hby dm2_16) rfl (l' := #[.val (.int p0), .val (.long p1), .second, .val (.long (2147483647 : Int64)), .second]) rfl) ?_
    refine OGets.step (fun _ => XS.lloadN X0.here hx rfl (hb hby dm2_17) rfl) ?_
    refine OGets.step (fun _ => XS.l2i X0.here hx rfl (hb hby dm2_18) rfl) ?_
    refine OGets.retI X0 hx hlk Bd.returns (hb hby dm2_19) (Nat.le_of_ble_eq_true rfl) (Nat.le_of_ble_eq_true rfl) ?_
    exact ⟨congrArg (fun z => some (Value.int z)) hv2.symm, rfl, e0⟩
  · refine OGets.step (fun _ => XS.ifYes X0.here hx rfl (pc0 := 10) (pc' := 17) rfl (hb hby dm2_10) rfl ((if0 _ _).trans (flt (fun q => hc10_1 ((lw_gt _ _).mp q))).2.2.2) (by decide) (by decide)) ?_
    have hv3 := hv0.trans (if_neg hc10_1)
    show OGets p e below _ (s₁.setTop (mkF m 17 #[.val (.int p0), .val (.long p1), .second, .val (.long ((p0.toInt64) + p1)), .second] []))
    refine OGets.step (fun _ => XS.lloadN X0.here hx rfl (hb hby dm2_17) rfl) ?_
    refine OGets.step (fun _ => XS.l2i X0.here hx rfl (hb hby dm2_18) rfl) ?_
    refine OGets.retI X0 hx hlk Bd.returns (hb hby dm2_19) (Nat.le_of_ble_eq_true rfl) (Nat.le_of_ble_eq_true rfl) ?_
    exact ⟨congrArg (fun z => some (Value.int z)) hv3.symm, rfl, e0⟩
def f_mx (p0 : Int32) (p1 : Int32) : Int32 := (if p0 < p1 then p1 else p0)
theorem dj29m65_0 : decode jdk_29_method_65_code 0 = .ok (.iload_n 0, 1) := by decide +kernel
theorem dj29m65_1 : decode jdk_29_method_65_code 1 = .ok (.iload_n 1, 1) := by decide +kernel
theorem dj29m65_2 : decode jdk_29_method_65_code 2 = .ok (.if_icmp .lt 7, 3) := by decide +kernel
theorem dj29m65_9 : decode jdk_29_method_65_code 9 = .ok (.iload_n 1, 1) := by decide +kernel
theorem dj29m65_10 : decode jdk_29_method_65_code 10 = .ok (.ireturn, 1) := by decide +kernel
theorem dj29m65_5 : decode jdk_29_method_65_code 5 = .ok (.iload_n 0, 1) := by decide +kernel
theorem dj29m65_6 : decode jdk_29_method_65_code 6 = .ok (.goto 4, 3) := by decide +kernel
theorem ef_mx (m : MethodId) (x0 : Int32) (x1 : Int32) : entryFrame m #[(.int x0), (.int x1)] 2 = mkF m 0 #[.val (.int x0), .val (.int x1)] [] := by first | (simp [entryFrame, mkF, argsToLocals, Value.category]; done) | rfl
def Q_mx (Z : State) (p0 : Int32) (p1 : Int32) (h0 : Heap) (n0 : Nat) (v : Option Value) (h : Heap) (L : List Loc) : Prop := v = some (.int (f_mx p0 p1)) ∧ L = [] ∧ h = h0
set_option maxRecDepth 65536 in
set_option maxHeartbeats 40000000 in
theorem rm_mx (l : Launch) (Z : State) (a0 : Array Value) (hw : ∀ d ∈ tables_1, d.before a0 Z = true) (ws : List Jvm.Cond) (p0 : Int32) (p1 : Int32) (h0 : Heap) (n0 : Nat) (Z0 : n0 ≤ h0.size) :
    MetFree l (⟨"java/lang/Math", "max", "(II)I"⟩ : MethodName) (head1 (Jvm.Cond.code (⟨"java/lang/Math", "max", "(II)I"⟩ : MethodName) jdk_29_method_65_code 2 (some .int) :: ws) ({ frames := 0, cells := 0, slots := 0, locals := 0 } : Room)) (fun a_ U => a_ = #[(.int p0), (.int p1)] ∧ Z.Warmed39 U.vm ∧ U.heap = h0) (fun _ _ _ _ _ => True) (fun _ U o U' => ∃ v L, o = .returned v ∧ Q_mx Z p0 p1 h0 n0 v U'.heap L ∧ FrameEnd U o U' L ({ frames := 0, cells := 0, slots := 0, locals := 0 } : Room).cells ({ frames := 0, cells := 0, slots := 0, locals := 0 } : Room).slots) := by
  refine MetFree.of_bodySF (Jvm.Free.JP.mathPlain rfl (by decide +kernel)) hisR ?_
  intro p e s m args below meth c s₁ Bd hml0 hP hK
  obtain ⟨rfl, hZ, hh⟩ := hP
  have hx := Bd.exec
  have hby := Bd.bytes
  have hlk : meth.locks = false := Bd.notSynchronized
  have hml : c.maxLocals = 2 := hml0
  have hown : s.vm.findClass "java/lang/Math" = some m.cls := findClass_of_methodNamed Bd.named
  have hnm := (name_of_methodNamed Bd.named Bd.method).1
  have X0 : Stand p l e ({ frames := 0, cells := 0, slots := 0, locals := 0 } : Room) s m #[(.int p0), (.int p1)] below meth c s₁ [] 0 0 := Stand.of_body Bd
  have e0 : s₁.heap = h0 := by rw [← hh, Bd.state]; rfl
  have N0 := Fr.nil n0
  have hv0 : f_mx p0 p1 = (if p0 < p1 then p1 else p0) := rfl
  show OGets p e below (OLeaves s (Q_mx Z p0 p1 h0 n0 ) ({ frames := 0, cells := 0, slots := 0, locals := 0 } : Room).cells ({ frames := 0, cells := 0, slots := 0, locals := 0 } : Room).slots) _
  refine OGets.enter (ef_mx m p0 p1) ?_
  show OGets p e below _ (s₁.setTop (mkF m 0 #[.val (.int p0), .val (.int p1)] []))
  refine OGets.step (fun _ => XS.iloadN X0.here hx rfl (hb hby dj29m65_0) rfl) ?_
  refine OGets.step (fun _ => XS.iloadN X0.here hx rfl (hb hby dj29m65_1) rfl) ?_
  by_cases hc2_4 : p0 < p1
  · refine OGets.step (fun _ => XS.icmpYes X0.here hx rfl (pc0 := 2) (pc' := 9) rfl (hb hby dj29m65_2) rfl (tlt hc2_4).1 (by decide) (by decide)) ?_
    have hv5 := hv0.trans (if_pos hc2_4)
    show OGets p e below _ (s₁.setTop (mkF m 9 #[.val (.int p0), .val (.int p1)] []))
    refine OGets.step (fun _ => XS.iloadN X0.here hx rfl (hb hby dj29m65_9) rfl) ?_
    refine OGets.retI X0 hx hlk Bd.returns (hb hby dj29m65_10) (Nat.le_of_ble_eq_true rfl) (Nat.le_of_ble_eq_true rfl) ?_
    exact ⟨congrArg (fun z => some (Value.int z)) hv5.symm, rfl, e0⟩
  · refine OGets.step (fun _ => XS.icmpNo X0.here hx rfl (hb hby dj29m65_2) rfl (flt hc2_4).1) ?_
    have hv6 := hv0.trans (if_neg hc2_4)
    show OGets p e below _ (s₁.setTop (mkF m 5 #[.val (.int p0), .val (.int p1)] []))
    refine OGets.step (fun _ => XS.iloadN X0.here hx rfl (hb hby dj29m65_5) rfl) ?_
    refine OGets.step (fun _ => XS.goto X0.here hx rfl (pc0 := 6) (pc' := 10) rfl (hb hby dj29m65_6) (by decide) (by decide)) ?_
    refine OGets.retI X0 hx hlk Bd.returns (hb hby dj29m65_10) (Nat.le_of_ble_eq_true rfl) (Nat.le_of_ble_eq_true rfl) ?_
    exact ⟨congrArg (fun z => some (Value.int z)) hv6.symm, rfl, e0⟩
def f_ni (p0 : Int32) : Int32 := (if (0 : Int32) < p0 then (if p0 < (65536 : Int32) then (if p0 < (256 : Int32) then (if p0 < (16 : Int32) then (if p0 < (4 : Int32) then ((31 : Int32) - ((p0.toUInt32 >>> ((1 : Int32) &&& 31).toUInt32).toInt32)) else ((29 : Int32) - ((((p0.toUInt32 >>> ((2 : Int32) &&& 31).toUInt32).toInt32).toUInt32 >>> ((1 : Int32) &&& 31).toUInt32).toInt32))) else (if ((p0.toUInt32 >>> ((4 : Int32) &&& 31).toUInt32).toInt32) < (4 : Int32) then ((27 : Int32) - ((((p0.toUInt32 >>> ((4 : Int32) &&& 31).toUInt32).toInt32).toUInt32 >>> ((1 : Int32) &&& 31).toUInt32).toInt32)) else ((25 : Int32) - ((((((p0.toUInt32 >>> ((4 : Int32) &&& 31).toUInt32).toInt32).toUInt32 >>> ((2 : Int32) &&& 31).toUInt32).toInt32).toUInt32 >>> ((1 : Int32) &&& 31).toUInt32).toInt32)))) else (if ((p0.toUInt32 >>> ((8 : Int32) &&& 31).toUInt32).toInt32) < (16 : Int32) then (if ((p0.toUInt32 >>> ((8 : Int32) &&& 31).toUInt32).toInt32) < (4 : Int32) then ((23 : Int32) - ((((p0.toUInt32 >>> ((8 : Int32) &&& 31).toUInt32).toInt32).toUInt32 >>> ((1 : Int32) &&& 31).toUInt32).toInt32)) else ((21 : Int32) - ((((((p0.toUInt32 >>> ((8 : Int32) &&& 31).toUInt32).toInt32).toUInt32 >>> ((2 : Int32) &&& 31).toUInt32).toInt32).toUInt32 >>> ((1 : Int32) &&& 31).toUInt32).toInt32))) else (if ((((p0.toUInt32 >>> ((8 : Int32) &&& 31).toUInt32).toInt32).toUInt32 >>> ((4 : Int32) &&& 31).toUInt32).toInt32) < (4 : Int32) then ((19 : Int32) - ((((((p0.toUInt32 >>> ((8 : Int32) &&& 31).toUInt32).toInt32).toUInt32 >>> ((4 : Int32) &&& 31).toUInt32).toInt32).toUInt32 >>> ((1 : Int32) &&& 31).toUInt32).toInt32)) else ((17 : Int32) - ((((((((p0.toUInt32 >>> ((8 : Int32) &&& 31).toUInt32).toInt32).toUInt32 >>> ((4 : Int32) &&& 31).toUInt32).toInt32).toUInt32 >>> ((2 : Int32) &&& 31).toUInt32).toInt32).toUInt32 >>> ((1 : Int32) &&& 31).toUInt32).toInt32))))) else (if ((p0.toUInt32 >>> ((16 : Int32) &&& 31).toUInt32).toInt32) < (256 : Int32) then (if ((p0.toUInt32 >>> ((16 : Int32) &&& 31).toUInt32).toInt32) < (16 : Int32) then (if ((p0.toUInt32 >>> ((16 : Int32) &&& 31).toUInt32).toInt32) < (4 : Int32) then ((15 : Int32) - ((((p0.toUInt32 >>> ((16 : Int32) &&& 31).toUInt32).toInt32).toUInt32 >>> ((1 : Int32) &&& 31).toUInt32).toInt32)) else ((13 : Int32) - ((((((p0.toUInt32 >>> ((16 : Int32) &&& 31).toUInt32).toInt32).toUInt32 >>> ((2 : Int32) &&& 31).toUInt32).toInt32).toUInt32 >>> ((1 : Int32) &&& 31).toUInt32).toInt32))) else (if ((((p0.toUInt32 >>> ((16 : Int32) &&& 31).toUInt32).toInt32).toUInt32 >>> ((4 : Int32) &&& 31).toUInt32).toInt32) < (4 : Int32) then ((11 : Int32) - ((((((p0.toUInt32 >>> ((16 : Int32) &&& 31).toUInt32).toInt32).toUInt32 >>> ((4 : Int32) &&& 31).toUInt32).toInt32).toUInt32 >>> ((1 : Int32) &&& 31).toUInt32).toInt32)) else ((9 : Int32) - ((((((((p0.toUInt32 >>> ((16 : Int32) &&& 31).toUInt32).toInt32).toUInt32 >>> ((4 : Int32) &&& 31).toUInt32).toInt32).toUInt32 >>> ((2 : Int32) &&& 31).toUInt32).toInt32).toUInt32 >>> ((1 : Int32) &&& 31).toUInt32).toInt32)))) else (if ((((p0.toUInt32 >>> ((16 : Int32) &&& 31).toUInt32).toInt32).toUInt32 >>> ((8 : Int32) &&& 31).toUInt32).toInt32) < (16 : Int32) then (if ((((p0.toUInt32 >>> ((16 : Int32) &&& 31).toUInt32).toInt32).toUInt32 >>> ((8 : Int32) &&& 31).toUInt32).toInt32) < (4 : Int32) then ((7 : Int32) - ((((((p0.toUInt32 >>> ((16 : Int32) &&& 31).toUInt32).toInt32).toUInt32 >>> ((8 : Int32) &&& 31).toUInt32).toInt32).toUInt32 >>> ((1 : Int32) &&& 31).toUInt32).toInt32)) else ((5 : Int32) - ((((((((p0.toUInt32 >>> ((16 : Int32) &&& 31).toUInt32).toInt32).toUInt32 >>> ((8 : Int32) &&& 31).toUInt32).toInt32).toUInt32 >>> ((2 : Int32) &&& 31).toUInt32).toInt32).toUInt32 >>> ((1 : Int32) &&& 31).toUInt32).toInt32))) else (if ((((((p0.toUInt32 >>> ((16 : Int32) &&& 31).toUInt32).toInt32).toUInt32 >>> ((8 : Int32) &&& 31).toUInt32).toInt32).toUInt32 >>> ((4 : Int32) &&& 31).toUInt32).toInt32) < (4 : Int32) then ((3 : Int32) - ((((((((p0.toUInt32 >>> ((16 : Int32) &&& 31).toUInt32).toInt32).toUInt32 >>> ((8 : Int32) &&& 31).toUInt32).toInt32).toUInt32 >>> ((4 : Int32) &&& 31).toUInt32).toInt32).toUInt32 >>> ((1 : Int32) &&& 31).toUInt32).toInt32)) else ((1 : Int32) - ((((((((((p0.toUInt32 >>> ((16 : Int32) &&& 31).toUInt32).toInt32).toUInt32 >>> ((8 : Int32) &&& 31).toUInt32).toInt32).toUInt32 >>> ((4 : Int32) &&& 31).toUInt32).toInt32).toUInt32 >>> ((2 : Int32) &&& 31).toUInt32).toInt32).toUInt32 >>> ((1 : Int32) &&& 31).toUInt32).toInt32)))))) else (if p0 = (0 : Int32) then (32 : Int32) else (0 : Int32)))
theorem pn_1 : plainName "java/lang/Integer" = true := by first | (simp [plainName, overriddenIn]; done) | decide +kernel
theorem dj33m47_0 : decode jdk_33_method_47_code 0 = .ok (.iload_n 0, 1) := by decide +kernel
theorem dj33m47_1 : decode jdk_33_method_47_code 1 = .ok (.ifCond .gt 14, 3) := by decide +kernel
theorem dj33m47_15 : decode jdk_33_method_47_code 15 = .ok (.bipush 31, 2) := by decide +kernel
theorem dj33m47_17 : decode jdk_33_method_47_code 17 = .ok (.istore_n 1, 1) := by decide +kernel
theorem dj33m47_18 : decode jdk_33_method_47_code 18 = .ok (.iload_n 0, 1) := by decide +kernel
theorem dj33m47_19 : decode jdk_33_method_47_code 19 = .ok (.ldc_w 264, 3) := by decide +kernel
theorem dj33m47_22 : decode jdk_33_method_47_code 22 = .ok (.if_icmp .lt 11, 3) := by decide +kernel
theorem dj33m47_33 : decode jdk_33_method_47_code 33 = .ok (.iload_n 0, 1) := by decide +kernel
theorem dj33m47_34 : decode jdk_33_method_47_code 34 = .ok (.sipush 256, 3) := by decide +kernel
theorem dj33m47_37 : decode jdk_33_method_47_code 37 = .ok (.if_icmp .lt 11, 3) := by decide +kernel
theorem dj33m47_48 : decode jdk_33_method_47_code 48 = .ok (.iload_n 0, 1) := by decide +kernel
theorem dj33m47_49 : decode jdk_33_method_47_code 49 = .ok (.bipush 16, 2) := by decide +kernel
theorem dj33m47_51 : decode jdk_33_method_47_code 51 = .ok (.if_icmp .lt 10, 3) := by decide +kernel
theorem dj33m47_61 : decode jdk_33_method_47_code 61 = .ok (.iload_n 0, 1) := by decide +kernel
theorem dj33m47_62 : decode jdk_33_method_47_code 62 = .ok (.iconst 4, 1) := by decide +kernel
theorem dj33m47_63 : decode jdk_33_method_47_code 63 = .ok (.if_icmp .lt 10, 3) := by decide +kernel
theorem dj33m47_73 : decode jdk_33_method_47_code 73 = .ok (.iload_n 1, 1) := by decide +kernel
theorem dj33m47_74 : decode jdk_33_method_47_code 74 = .ok (.iload_n 0, 1) := by decide +kernel
theorem dj33m47_75 : decode jdk_33_method_47_code 75 = .ok (.iconst 1, 1) := by decide +kernel
theorem dj33m47_76 : decode jdk_33_method_47_code 76 = .ok (.iushr, 1) := by decide +kernel
theorem dj33m47_77 : decode jdk_33_method_47_code 77 = .ok (.isub, 1) := by decide +kernel
theorem dj33m47_78 : decode jdk_33_method_47_code 78 = .ok (.ireturn, 1) := by decide +kernel
theorem dj33m47_66 : decode jdk_33_method_47_code 66 = .ok (.iinc 1 (-2), 3) := by decide +kernel
theorem dj33m47_69 : decode jdk_33_method_47_code 69 = .ok (.iload_n 0, 1) := by decide +kernel
theorem dj33m47_70 : decode jdk_33_method_47_code 70 = .ok (.iconst 2, 1) := by decide +kernel
theorem dj33m47_71 : decode jdk_33_method_47_code 71 = .ok (.iushr, 1) := by decide +kernel
theorem dj33m47_72 : decode jdk_33_method_47_code 72 = .ok (.istore_n 0, 1) := by decide +kernel
theorem dj33m47_54 : decode jdk_33_method_47_code 54 = .ok (.iinc 1 (-4), 3) := by decide +kernel
theorem dj33m47_57 : decode jdk_33_method_47_code 57 = .ok (.iload_n 0, 1) := by decide +kernel
theorem dj33m47_58 : decode jdk_33_method_47_code 58 = .ok (.iconst 4, 1) := by decide +kernel
theorem dj33m47_59 : decode jdk_33_method_47_code 59 = .ok (.iushr, 1) := by decide +kernel
theorem dj33m47_60 : decode jdk_33_method_47_code 60 = .ok (.istore_n 0, 1) := by decide +kernel
theorem dj33m47_40 : decode jdk_33_method_47_code 40 = .ok (.iinc 1 (-8), 3) := by decide +kernel
theorem dj33m47_43 : decode jdk_33_method_47_code 43 = .ok (.iload_n 0, 1) := by decide +kernel
theorem dj33m47_44 : decode jdk_33_method_47_code 44 = .ok (.bipush 8, 2) := by decide +kernel
theorem dj33m47_46 : decode jdk_33_method_47_code 46 = .ok (.iushr, 1) := by decide +kernel
theorem dj33m47_47 : decode jdk_33_method_47_code 47 = .ok (.istore_n 0, 1) := by decide +kernel
theorem dj33m47_25 : decode jdk_33_method_47_code 25 = .ok (.iinc 1 (-16), 3) := by decide +kernel
theorem dj33m47_28 : decode jdk_33_method_47_code 28 = .ok (.iload_n 0, 1) := by decide +kernel
theorem dj33m47_29 : decode jdk_33_method_47_code 29 = .ok (.bipush 16, 2) := by decide +kernel
theorem dj33m47_31 : decode jdk_33_method_47_code 31 = .ok (.iushr, 1) := by decide +kernel
theorem dj33m47_32 : decode jdk_33_method_47_code 32 = .ok (.istore_n 0, 1) := by decide +kernel
theorem dj33m47_4 : decode jdk_33_method_47_code 4 = .ok (.iload_n 0, 1) := by decide +kernel
theorem dj33m47_5 : decode jdk_33_method_47_code 5 = .ok (.ifCond .ne 8, 3) := by decide +kernel
theorem dj33m47_8 : decode jdk_33_method_47_code 8 = .ok (.bipush 32, 2) := by decide +kernel
theorem dj33m47_10 : decode jdk_33_method_47_code 10 = .ok (.goto 4, 3) := by decide +kernel
theorem dj33m47_14 : decode jdk_33_method_47_code 14 = .ok (.ireturn, 1) := by decide +kernel
theorem dj33m47_13 : decode jdk_33_method_47_code 13 = .ok (.iconst 0, 1) := by decide +kernel
theorem ef_ni (m : MethodId) (x0 : Int32) : entryFrame m #[(.int x0)] 2 = mkF m 0 #[.val (.int x0), .unset] [] := by first | (simp [entryFrame, mkF, argsToLocals, Value.category]; done) | rfl
def Q_ni (Z : State) (p0 : Int32) (h0 : Heap) (n0 : Nat) (v : Option Value) (h : Heap) (L : List Loc) : Prop := v = some (.int (f_ni p0)) ∧ L = [] ∧ h = h0
set_option maxRecDepth 65536 in
set_option maxHeartbeats 40000000 in
theorem rm_ni (l : Launch) (Z : State) (a0 : Array Value) (hw : ∀ d ∈ tables_1, d.before a0 Z = true) (ws : List Jvm.Cond) (p0 : Int32) (h0 : Heap) (n0 : Nat) (Z0 : n0 ≤ h0.size) :
    MetFree l (⟨"java/lang/Integer", "numberOfLeadingZeros", "(I)I"⟩ : MethodName) (head1 (Jvm.Cond.code (⟨"java/lang/Integer", "numberOfLeadingZeros", "(I)I"⟩ : MethodName) jdk_33_method_47_code 2 (some .int) :: ws) ({ frames := 0, cells := 0, slots := 0, locals := 0 } : Room)) (fun a_ U => a_ = #[(.int p0)] ∧ Z.Warmed39 U.vm ∧ U.heap = h0) (fun _ _ _ _ _ => True) (fun _ U o U' => ∃ v L, o = .returned v ∧ Q_ni Z p0 h0 n0 v U'.heap L ∧ FrameEnd U o U' L ({ frames := 0, cells := 0, slots := 0, locals := 0 } : Room).cells ({ frames := 0, cells := 0, slots := 0, locals := 0 } : Room).slots) := by
  refine MetFree.of_bodySF (plainFor_of_name pn_1) hisR ?_
  intro p e s m args below meth c s₁ Bd hml0 hP hK
  obtain ⟨rfl, hZ, hh⟩ := hP
  have hx := Bd.exec
  have hby := Bd.bytes
  have hlk : meth.locks = false := Bd.notSynchronized
  have hml : c.maxLocals = 2 := hml0
  have hown : s.vm.findClass "java/lang/Integer" = some m.cls := findClass_of_methodNamed Bd.named
  have hnm := (name_of_methodNamed Bd.named Bd.method).1
  have X0 : Stand p l e ({ frames := 0, cells := 0, slots := 0, locals := 0 } : Room) s m #[(.int p0)] below meth c s₁ [] 0 0 := Stand.of_body Bd
  have e0 : s₁.heap = h0 := by rw [← hh, Bd.state]; rfl
  have N0 := Fr.nil n0
  have hv0 : f_ni p0 = (if (0 : Int32) < p0 then (if p0 < (65536 : Int32) then (if p0 < (256 : Int32) then (if p0 < (16 : Int32) then (if p0 < (4 : Int32) then ((31 : Int32) - ((p0.toUInt32 >>> ((1 : Int32) &&& 31).toUInt32).toInt32)) else ((29 : Int32) - ((((p0.toUInt32 >>> ((2 : Int32) &&& 31).toUInt32).toInt32).toUInt32 >>> ((1 : Int32) &&& 31).toUInt32).toInt32))) else (if ((p0.toUInt32 >>> ((4 : Int32) &&& 31).toUInt32).toInt32) < (4 : Int32) then ((27 : Int32) - ((((p0.toUInt32 >>> ((4 : Int32) &&& 31).toUInt32).toInt32).toUInt32 >>> ((1 : Int32) &&& 31).toUInt32).toInt32)) else ((25 : Int32) - ((((((p0.toUInt32 >>> ((4 : Int32) &&& 31).toUInt32).toInt32).toUInt32 >>> ((2 : Int32) &&& 31).toUInt32).toInt32).toUInt32 >>> ((1 : Int32) &&& 31).toUInt32).toInt32)))) else (if ((p0.toUInt32 >>> ((8 : Int32) &&& 31).toUInt32).toInt32) < (16 : Int32) then (if ((p0.toUInt32 >>> ((8 : Int32) &&& 31).toUInt32).toInt32) < (4 : Int32) then ((23 : Int32) - ((((p0.toUInt32 >>> ((8 : Int32) &&& 31).toUInt32).toInt32).toUInt32 >>> ((1 : Int32) &&& 31).toUInt32).toInt32)) else ((21 : Int32) - ((((((p0.toUInt32 >>> ((8 : Int32) &&& 31).toUInt32).toInt32).toUInt32 >>> ((2 : Int32) &&& 31).toUInt32).toInt32).toUInt32 >>> ((1 : Int32) &&& 31).toUInt32).toInt32))) else (if ((((p0.toUInt32 >>> ((8 : Int32) &&& 31).toUInt32).toInt32).toUInt32 >>> ((4 : Int32) &&& 31).toUInt32).toInt32) < (4 : Int32) then ((19 : Int32) - ((((((p0.toUInt32 >>> ((8 : Int32) &&& 31).toUInt32).toInt32).toUInt32 >>> ((4 : Int32) &&& 31).toUInt32).toInt32).toUInt32 >>> ((1 : Int32) &&& 31).toUInt32).toInt32)) else ((17 : Int32) - ((((((((p0.toUInt32 >>> ((8 : Int32) &&& 31).toUInt32).toInt32).toUInt32 >>> ((4 : Int32) &&& 31).toUInt32).toInt32).toUInt32 >>> ((2 : Int32) &&& 31).toUInt32).toInt32).toUInt32 >>> ((1 : Int32) &&& 31).toUInt32).toInt32))))) else (if ((p0.toUInt32 >>> ((16 : Int32) &&& 31).toUInt32).toInt32) < (256 : Int32) then (if ((p0.toUInt32 >>> ((16 : Int32) &&& 31).toUInt32).toInt32) < (16 : Int32) then (if ((p0.toUInt32 >>> ((16 : Int32) &&& 31).toUInt32).toInt32) < (4 : Int32) then ((15 : Int32) - ((((p0.toUInt32 >>> ((16 : Int32) &&& 31).toUInt32).toInt32).toUInt32 >>> ((1 : Int32) &&& 31).toUInt32).toInt32)) else ((13 : Int32) - ((((((p0.toUInt32 >>> ((16 : Int32) &&& 31).toUInt32).toInt32).toUInt32 >>> ((2 : Int32) &&& 31).toUInt32).toInt32).toUInt32 >>> ((1 : Int32) &&& 31).toUInt32).toInt32))) else (if ((((p0.toUInt32 >>> ((16 : Int32) &&& 31).toUInt32).toInt32).toUInt32 >>> ((4 : Int32) &&& 31).toUInt32).toInt32) < (4 : Int32) then ((11 : Int32) - ((((((p0.toUInt32 >>> ((16 : Int32) &&& 31).toUInt32).toInt32).toUInt32 >>> ((4 : Int32) &&& 31).toUInt32).toInt32).toUInt32 >>> ((1 : Int32) &&& 31).toUInt32).toInt32)) else ((9 : Int32) - ((((((((p0.toUInt32 >>> ((16 : Int32) &&& 31).toUInt32).toInt32).toUInt32 >>> ((4 : Int32) &&& 31).toUInt32).toInt32).toUInt32 >>> ((2 : Int32) &&& 31).toUInt32).toInt32).toUInt32 >>> ((1 : Int32) &&& 31).toUInt32).toInt32)))) else (if ((((p0.toUInt32 >>> ((16 : Int32) &&& 31).toUInt32).toInt32).toUInt32 >>> ((8 : Int32) &&& 31).toUInt32).toInt32) < (16 : Int32) then (if ((((p0.toUInt32 >>> ((16 : Int32) &&& 31).toUInt32).toInt32).toUInt32 >>> ((8 : Int32) &&& 31).toUInt32).toInt32) < (4 : Int32) then ((7 : Int32) - ((((((p0.toUInt32 >>> ((16 : Int32) &&& 31).toUInt32).toInt32).toUInt32 >>> ((8 : Int32) &&& 31).toUInt32).toInt32).toUInt32 >>> ((1 : Int32) &&& 31).toUInt32).toInt32)) else ((5 : Int32) - ((((((((p0.toUInt32 >>> ((16 : Int32) &&& 31).toUInt32).toInt32).toUInt32 >>> ((8 : Int32) &&& 31).toUInt32).toInt32).toUInt32 >>> ((2 : Int32) &&& 31).toUInt32).toInt32).toUInt32 >>> ((1 : Int32) &&& 31).toUInt32).toInt32))) else (if ((((((p0.toUInt32 >>> ((16 : Int32) &&& 31).toUInt32).toInt32).toUInt32 >>> ((8 : Int32) &&& 31).toUInt32).toInt32).toUInt32 >>> ((4 : Int32) &&& 31).toUInt32).toInt32) < (4 : Int32) then ((3 : Int32) - ((((((((p0.toUInt32 >>> ((16 : Int32) &&& 31).toUInt32).toInt32).toUInt32 >>> ((8 : Int32) &&& 31).toUInt32).toInt32).toUInt32 >>> ((4 : Int32) &&& 31).toUInt32).toInt32).toUInt32 >>> ((1 : Int32) &&& 31).toUInt32).toInt32)) else ((1 : Int32) - ((((((((((p0.toUInt32 >>> ((16 : Int32) &&& 31).toUInt32).toInt32).toUInt32 >>> ((8 : Int32) &&& 31).toUInt32).toInt32).toUInt32 >>> ((4 : Int32) &&& 31).toUInt32).toInt32).toUInt32 >>> ((2 : Int32) &&& 31).toUInt32).toInt32).toUInt32 >>> ((1 : Int32) &&& 31).toUInt32).toInt32)))))) else (if p0 = (0 : Int32) then (32 : Int32) else (0 : Int32))) := rfl
  show OGets p e below (OLeaves s (Q_ni Z p0 h0 n0 ) ({ frames := 0, cells := 0, slots := 0, locals := 0 } : Room).cells ({ frames := 0, cells := 0, slots := 0, locals := 0 } : Room).slots) _
  refine OGets.enter (ef_ni m p0) ?_
  show OGets p e below _ (s₁.setTop (mkF m 0 #[.val (.int p0), .unset] []))
  refine OGets.step (fun _ => XS.iloadN X0.here hx rfl (hb hby dj33m47_0) rfl) ?_
  by_cases hc1_7 : (0 : Int32) < p0
  · refine OGets.step (fun _ => XS.ifYes X0.here hx rfl (pc0 := 1) (pc' := 15) rfl (hb hby dj33m47_1) rfl ((if0 _ _).trans (tlt hc1_7).2.2.1) (by decide) (by decide)) ?_
    have hv8 := hv0.trans (if_pos hc1_7)
    show OGets p e below _ (s₁.setTop (mkF m 15 #[.val (.int p0), .unset] []))
    refine OGets.step (fun _ => XS.bipush X0.here hx rfl (hb hby dj33m47_15)) ?_
    refine OGets.step (fun _ => XS.istoreN X0.here hx rfl (hb hby dj33m47_17) rfl (l' := #[.val (.int p0), .val (.int (31 : Int32))]) rfl) ?_
    refine OGets.step (fun _ => XS.iloadN X0.here hx rfl (hb hby dj33m47_18) rfl) ?_
    refine OGets.step (fun _ => X0.ldcwInt hx hown (mvT hZ (hw _ (List.mem_of_getElem? (i := 173) rfl))) (g := (mkF m 19 #[.val (.int p0), .val (.int (31 : Int32))] [(.int p0)])) rfl (hb hby dj33m47_19) _) ?_
    by_cases hc22_9 : p0 < (65536 : Int32)
    · refine OGets.step (fun _ => XS.icmpYes X0.here hx rfl (pc0 := 22) (pc' := 33) rfl (hb hby dj33m47_22) rfl (tlt hc22_9).1 (by decide) (by decide)) ?_
      have hv10 := hv8.trans (if_pos hc22_9)
      show OGets p e below _ (s₁.setTop (mkF m 33 #[.val (.int p0), .val (.int (31 : Int32))] []))
      refine OGets.step (fun _ => XS.iloadN X0.here hx rfl (hb hby dj33m47_33) rfl) ?_
      refine OGets.step (fun _ => XS.sipush X0.here hx rfl (hb hby dj33m47_34)) ?_
      by_cases hc37_11 : p0 < (256 : Int32)
      · refine OGets.step (fun _ => XS.icmpYes X0.here hx rfl (pc0 := 37) (pc' := 48) rfl (hb hby dj33m47_37) rfl (tlt hc37_11).1 (by decide) (by decide)) ?_
        have hv12 := hv10.trans (if_pos hc37_11)
        show OGets p e below _ (s₁.setTop (mkF m 48 #[.val (.int p0), .val (.int (31 : Int32))] []))
        refine OGets.step (fun _ => XS.iloadN X0.here hx rfl (hb hby dj33m47_48) rfl) ?_
        refine OGets.step (fun _ => XS.bipush X0.here hx rfl (hb hby dj33m47_49)) ?_
        by_cases hc51_13 : p0 < (16 : Int32)
        · refine OGets.step (fun _ => XS.icmpYes X0.here hx rfl (pc0 := 51) (pc' := 61) rfl (hb hby dj33m47_51) rfl (tlt hc51_13).1 (by decide) (by decide)) ?_
          have hv14 := hv12.trans (if_pos hc51_13)
          show OGets p e below _ (s₁.setTop (mkF m 61 #[.val (.int p0), .val (.int (31 : Int32))] []))
          refine OGets.step (fun _ => XS.iloadN X0.here hx rfl (hb hby dj33m47_61) rfl) ?_
          refine OGets.step (fun _ => XS.iconst X0.here hx rfl (hb hby dj33m47_62)) ?_
          by_cases hc63_15 : p0 < (4 : Int32)
          · refine OGets.step (fun _ => XS.icmpYes X0.here hx rfl (pc0 := 63) (pc' := 73) rfl (hb hby dj33m47_63) rfl (tlt hc63_15).1 (by decide) (by decide)) ?_
            have hv16 := hv14.trans (if_pos hc63_15)
            show OGets p e below _ (s₁.setTop (mkF m 73 #[.val (.int p0), .val (.int (31 : Int32))] []))
            refine OGets.step (fun _ => XS.iloadN X0.here hx rfl (hb hby dj33m47_73) rfl) ?_
            refine OGets.step (fun _ => XS.iloadN X0.here hx rfl (hb hby dj33m47_74) rfl) ?_
            refine OGets.step (fun _ => XS.iconst X0.here hx rfl (hb hby dj33m47_75)) ?_
            refine OGets.step (fun _ => XS.iushr X0.here hx rfl (hb hby dj33m47_76) rfl) ?_
            refine OGets.step (fun _ => XS.isub X0.here hx rfl (hb hby dj33m47_77) rfl) ?_
            refine OGets.retI X0 hx hlk Bd.returns (hb hby dj33m47_78) (Nat.le_of_ble_eq_true rfl) (Nat.le_of_ble_eq_true rfl) ?_
            exact ⟨congrArg (fun z => some (Value.int z)) hv16.symm, rfl, e0⟩
          · refine OGets.step (fun _ => XS.icmpNo X0.here hx rfl (hb hby dj33m47_63) rfl (flt hc63_15).1) ?_
            have hv17 := hv14.trans (if_neg hc63_15)
            show OGets p e below _ (s₁.setTop (mkF m 66 #[.val (.int p0), .val (.int (31 : Int32))] []))
            refine OGets.step (fun _ => XS.iinc X0.here hx rfl (hb hby dj33m47_66) rfl (l' := #[.val (.int p0), .val (.int (29 : Int32))]) rfl) ?_
            refine OGets.step (fun _ => XS.iloadN X0.here hx rfl (hb hby dj33m47_69) rfl) ?_
            refine OGets.step (fun _ => XS.iconst X0.here hx rfl (hb hby dj33m47_70)) ?_
            refine OGets.step (fun _ => XS.iushr X0.here hx rfl (hb hby dj33m47_71) rfl) ?_
            refine OGets.step (fun _ => XS.istoreN X0.here hx rfl (hb hby dj33m47_72) rfl (l' := #[.val (.int ((p0.toUInt32 >>> ((2 : Int32) &&& 31).toUInt32).toInt32)), .val (.int (29 : Int32))]) rfl) ?_
            refine OGets.step (fun _ => XS.iloadN X0.here hx rfl (hb hby dj33m47_73) rfl) ?_
            show OGets p e below _ (s₁.setTop (mkF m 74 #[.val (.int ((p0.toUInt32 >>> ((2 : Int32) &&& 31).toUInt32).toInt32)), .val (.int (29 : Int32))] [(.int (29 : Int32))]))
            refine OGets.step (fun _ => XS.iloadN X0.here hx rfl (hb hby dj33m47_74) rfl) ?_
            refine OGets.step (fun _ => XS.iconst X0.here hx rfl (hb hby dj33m47_75)) ?_
            refine OGets.step (fun _ => XS.iushr X0.here hx rfl (hb hby dj33m47_76) rfl) ?_
            refine OGets.step (fun _ => XS.isub X0.here hx rfl (hb hby dj33m47_77) rfl) ?_
            refine OGets.retI X0 hx hlk Bd.returns (hb hby dj33m47_78) (Nat.le_of_ble_eq_true rfl) (Nat.le_of_ble_eq_true rfl) ?_
            exact ⟨congrArg (fun z => some (Value.int z)) hv17.symm, rfl, e0⟩
        · refine OGets.step (fun _ => XS.icmpNo X0.here hx rfl (hb hby dj33m47_51) rfl (flt hc51_13).1) ?_
          have hv18 := hv12.trans (if_neg hc51_13)
          show OGets p e below _ (s₁.setTop (mkF m 54 #[.val (.int p0), .val (.int (31 : Int32))] []))
          refine OGets.step (fun _ => XS.iinc X0.here hx rfl (hb hby dj33m47_54) rfl (l' := #[.val (.int p0), .val (.int (27 : Int32))]) rfl) ?_
          refine OGets.step (fun _ => XS.iloadN X0.here hx rfl (hb hby dj33m47_57) rfl) ?_
          refine OGets.step (fun _ => XS.iconst X0.here hx rfl (hb hby dj33m47_58)) ?_
          refine OGets.step (fun _ => XS.iushr X0.here hx rfl (hb hby dj33m47_59) rfl) ?_
          refine OGets.step (fun _ => XS.istoreN X0.here hx rfl (hb hby dj33m47_60) rfl (l' := #[.val (.int ((p0.toUInt32 >>> ((4 : Int32) &&& 31).toUInt32).toInt32)), .val (.int (27 : Int32))]) rfl) ?_
          refine OGets.step (fun _ => XS.iloadN X0.here hx rfl (hb hby dj33m47_61) rfl) ?_
          show OGets p e below _ (s₁.setTop (mkF m 62 #[.val (.int ((p0.toUInt32 >>> ((4 : Int32) &&& 31).toUInt32).toInt32)), .val (.int (27 : Int32))] [(.int ((p0.toUInt32 >>> ((4 : Int32) &&& 31).toUInt32).toInt32))]))
          refine OGets.step (fun _ => XS.iconst X0.here hx rfl (hb hby dj33m47_62)) ?_
          by_cases hc63_19 : ((p0.toUInt32 >>> ((4 : Int32) &&& 31).toUInt32).toInt32) < (4 : Int32)
          · refine OGets.step (fun _ => XS.icmpYes X0.here hx rfl (pc0 := 63) (pc' := 73) rfl (hb hby dj33m47_63) rfl (tlt hc63_19).1 (by decide) (by decide)) ?_
            have hv20 := hv18.trans (if_pos hc63_19)
            show OGets p e below _ (s₁.setTop (mkF m 73 #[.val (.int ((p0.toUInt32 >>> ((4 : Int32) &&& 31).toUInt32).toInt32)), .val (.int (27 : Int32))] []))
            refine OGets.step (fun _ => XS.iloadN X0.here hx rfl (hb hby dj33m47_73) rfl) ?_
            refine OGets.step (fun _ => XS.iloadN X0.here hx rfl (hb hby dj33m47_74) rfl) ?_
            refine OGets.step (fun _ => XS.iconst X0.here hx rfl (hb hby dj33m47_75)) ?_
            refine OGets.step (fun _ => XS.iushr X0.here hx rfl (hb hby dj33m47_76) rfl) ?_
            refine OGets.step (fun _ => XS.isub X0.here hx rfl (hb hby dj33m47_77) rfl) ?_
            refine OGets.retI X0 hx hlk Bd.returns (hb hby dj33m47_78) (Nat.le_of_ble_eq_true rfl) (Nat.le_of_ble_eq_true rfl) ?_
            exact ⟨congrArg (fun z => some (Value.int z)) hv20.symm, rfl, e0⟩
          · refine OGets.step (fun _ => XS.icmpNo X0.here hx rfl (hb hby dj33m47_63) rfl (flt hc63_19).1) ?_
            have hv21 := hv18.trans (if_neg hc63_19)
            show OGets p e below _ (s₁.setTop (mkF m 66 #[.val (.int ((p0.toUInt32 >>> ((4 : Int32) &&& 31).toUInt32).toInt32)), .val (.int (27 : Int32))] []))
            refine OGets.step (fun _ => XS.iinc X0.here hx rfl (hb hby dj33m47_66) rfl (l' := #[.val (.int ((p0.toUInt32 >>> ((4 : Int32) &&& 31).toUInt32).toInt32)), .val (.int (25 : Int32))]) rfl) ?_
            refine OGets.step (fun _ => XS.iloadN X0.here hx rfl (hb hby dj33m47_69) rfl) ?_
            refine OGets.step (fun _ => XS.iconst X0.here hx rfl (hb hby dj33m47_70)) ?_
            refine OGets.step (fun _ => XS.iushr X0.here hx rfl (hb hby dj33m47_71) rfl) ?_
            refine OGets.step (fun _ => XS.istoreN X0.here hx rfl (hb hby dj33m47_72) rfl (l' := #[.val (.int ((((p0.toUInt32 >>> ((4 : Int32) &&& 31).toUInt32).toInt32).toUInt32 >>> ((2 : Int32) &&& 31).toUInt32).toInt32)), .val (.int (25 : Int32))]) rfl) ?_
            refine OGets.step (fun _ => XS.iloadN X0.here hx rfl (hb hby dj33m47_73) rfl) ?_
            show OGets p e below _ (s₁.setTop (mkF m 74 #[.val (.int ((((p0.toUInt32 >>> ((4 : Int32) &&& 31).toUInt32).toInt32).toUInt32 >>> ((2 : Int32) &&& 31).toUInt32).toInt32)), .val (.int (25 : Int32))] [(.int (25 : Int32))]))
            refine OGets.step (fun _ => XS.iloadN X0.here hx rfl (hb hby dj33m47_74) rfl) ?_
            refine OGets.step (fun _ => XS.iconst X0.here hx rfl (hb hby dj33m47_75)) ?_
            refine OGets.step (fun _ => XS.iushr X0.here hx rfl (hb hby dj33m47_76) rfl) ?_
            refine OGets.step (fun _ => XS.isub X0.here hx rfl (hb hby dj33m47_77) rfl) ?_
            refine OGets.retI X0 hx hlk Bd.returns (hb hby dj33m47_78) (Nat.le_of_ble_eq_true rfl) (Nat.le_of_ble_eq_true rfl) ?_
            exact ⟨congrArg (fun z => some (Value.int z)) hv21.symm, rfl, e0⟩
      · refine OGets.step (fun _ => XS.icmpNo X0.here hx rfl (hb hby dj33m47_37) rfl (flt hc37_11).1) ?_
        have hv22 := hv10.trans (if_neg hc37_11)
        show OGets p e below _ (s₁.setTop (mkF m 40 #[.val (.int p0), .val (.int (31 : Int32))] []))
        refine OGets.step (fun _ => XS.iinc X0.here hx rfl (hb hby dj33m47_40) rfl (l' := #[.val (.int p0), .val (.int (23 : Int32))]) rfl) ?_
        refine OGets.step (fun _ => XS.iloadN X0.here hx rfl (hb hby dj33m47_43) rfl) ?_
        refine OGets.step (fun _ => XS.bipush X0.here hx rfl (hb hby dj33m47_44)) ?_
        refine OGets.step (fun _ => XS.iushr X0.here hx rfl (hb hby dj33m47_46) rfl) ?_
        refine OGets.step (fun _ => XS.istoreN X0.here hx rfl (hb hby dj33m47_47) rfl (l' := #[.val (.int ((p0.toUInt32 >>> ((8 : Int32) &&& 31).toUInt32).toInt32)), .val (.int (23 : Int32))]) rfl) ?_
        refine OGets.step (fun _ => XS.iloadN X0.here hx rfl (hb hby dj33m47_48) rfl) ?_
        show OGets p e below _ (s₁.setTop (mkF m 49 #[.val (.int ((p0.toUInt32 >>> ((8 : Int32) &&& 31).toUInt32).toInt32)), .val (.int (23 : Int32))] [(.int ((p0.toUInt32 >>> ((8 : Int32) &&& 31).toUInt32).toInt32))]))
        refine OGets.step (fun _ => XS.bipush X0.here hx rfl (hb hby dj33m47_49)) ?_
        by_cases hc51_23 : ((p0.toUInt32 >>> ((8 : Int32) &&& 31).toUInt32).toInt32) < (16 : Int32)
        · refine OGets.step (fun _ => XS.icmpYes X0.here hx rfl (pc0 := 51) (pc' := 61) rfl (hb hby dj33m47_51) rfl (tlt hc51_23).1 (by decide) (by decide)) ?_
          have hv24 := hv22.trans (if_pos hc51_23)
          show OGets p e below _ (s₁.setTop (mkF m 61 #[.val (.int ((p0.toUInt32 >>> ((8 : Int32) &&& 31).toUInt32).toInt32)), .val (.int (23 : Int32))] []))
          refine OGets.step (fun _ => XS.iloadN X0.here hx rfl (hb hby dj33m47_61) rfl) ?_
          refine OGets.step (fun _ => XS.iconst X0.here hx rfl (hb hby dj33m47_62)) ?_
          by_cases hc63_25 : ((p0.toUInt32 >>> ((8 : Int32) &&& 31).toUInt32).toInt32) < (4 : Int32)
          · refine OGets.step (fun _ => XS.icmpYes X0.here hx rfl (pc0 := 63) (pc' := 73) rfl (hb hby dj33m47_63) rfl (tlt hc63_25).1 (by decide) (by decide)) ?_
            have hv26 := hv24.trans (if_pos hc63_25)
            show OGets p e below _ (s₁.setTop (mkF m 73 #[.val (.int ((p0.toUInt32 >>> ((8 : Int32) &&& 31).toUInt32).toInt32)), .val (.int (23 : Int32))] []))
            refine OGets.step (fun _ => XS.iloadN X0.here hx rfl (hb hby dj33m47_73) rfl) ?_
            refine OGets.step (fun _ => XS.iloadN X0.here hx rfl (hb hby dj33m47_74) rfl) ?_
            refine OGets.step (fun _ => XS.iconst X0.here hx rfl (hb hby dj33m47_75)) ?_
            refine OGets.step (fun _ => XS.iushr X0.here hx rfl (hb hby dj33m47_76) rfl) ?_
            refine OGets.step (fun _ => XS.isub X0.here hx rfl (hb hby dj33m47_77) rfl) ?_
            refine OGets.retI X0 hx hlk Bd.returns (hb hby dj33m47_78) (Nat.le_of_ble_eq_true rfl) (Nat.le_of_ble_eq_true rfl) ?_
            exact ⟨congrArg (fun z => some (Value.int z)) hv26.symm, rfl, e0⟩
          · refine OGets.step (fun _ => XS.icmpNo X0.here hx rfl (hb hby dj33m47_63) rfl (flt hc63_25).1) ?_
            have hv27 := hv24.trans (if_neg hc63_25)
            show OGets p e below _ (s₁.setTop (mkF m 66 #[.val (.int ((p0.toUInt32 >>> ((8 : Int32) &&& 31).toUInt32).toInt32)), .val (.int (23 : Int32))] []))
            refine OGets.step (fun _ => XS.iinc X0.here hx rfl (hb hby dj33m47_66) rfl (l' := #[.val (.int ((p0.toUInt32 >>> ((8 : Int32) &&& 31).toUInt32).toInt32)), .val (.int (21 : Int32))]) rfl) ?_
            refine OGets.step (fun _ => XS.iloadN X0.here hx rfl (hb hby dj33m47_69) rfl) ?_
            refine OGets.step (fun _ => XS.iconst X0.here hx rfl (hb hby dj33m47_70)) ?_
            refine OGets.step (fun _ => XS.iushr X0.here hx rfl (hb hby dj33m47_71) rfl) ?_
            refine OGets.step (fun _ => XS.istoreN X0.here hx rfl (hb hby dj33m47_72) rfl (l' := #[.val (.int ((((p0.toUInt32 >>> ((8 : Int32) &&& 31).toUInt32).toInt32).toUInt32 >>> ((2 : Int32) &&& 31).toUInt32).toInt32)), .val (.int (21 : Int32))]) rfl) ?_
            refine OGets.step (fun _ => XS.iloadN X0.here hx rfl (hb hby dj33m47_73) rfl) ?_
            show OGets p e below _ (s₁.setTop (mkF m 74 #[.val (.int ((((p0.toUInt32 >>> ((8 : Int32) &&& 31).toUInt32).toInt32).toUInt32 >>> ((2 : Int32) &&& 31).toUInt32).toInt32)), .val (.int (21 : Int32))] [(.int (21 : Int32))]))
            refine OGets.step (fun _ => XS.iloadN X0.here hx rfl (hb hby dj33m47_74) rfl) ?_
            refine OGets.step (fun _ => XS.iconst X0.here hx rfl (hb hby dj33m47_75)) ?_
            refine OGets.step (fun _ => XS.iushr X0.here hx rfl (hb hby dj33m47_76) rfl) ?_
            refine OGets.step (fun _ => XS.isub X0.here hx rfl (hb hby dj33m47_77) rfl) ?_
            refine OGets.retI X0 hx hlk Bd.returns (hb hby dj33m47_78) (Nat.le_of_ble_eq_true rfl) (Nat.le_of_ble_eq_true rfl) ?_
            exact ⟨congrArg (fun z => some (Value.int z)) hv27.symm, rfl, e0⟩
        · refine OGets.step (fun _ => XS.icmpNo X0.here hx rfl (hb hby dj33m47_51) rfl (flt hc51_23).1) ?_
          have hv28 := hv22.trans (if_neg hc51_23)
          show OGets p e below _ (s₁.setTop (mkF m 54 #[.val (.int ((p0.toUInt32 >>> ((8 : Int32) &&& 31).toUInt32).toInt32)), .val (.int (23 : Int32))] []))
          refine OGets.step (fun _ => XS.iinc X0.here hx rfl (hb hby dj33m47_54) rfl (l' := #[.val (.int ((p0.toUInt32 >>> ((8 : Int32) &&& 31).toUInt32).toInt32)), .val (.int (19 : Int32))]) rfl) ?_
          refine OGets.step (fun _ => XS.iloadN X0.here hx rfl (hb hby dj33m47_57) rfl) ?_
          refine OGets.step (fun _ => XS.iconst X0.here hx rfl (hb hby dj33m47_58)) ?_
          refine OGets.step (fun _ => XS.iushr X0.here hx rfl (hb hby dj33m47_59) rfl) ?_
          refine OGets.step (fun _ => XS.istoreN X0.here hx rfl (hb hby dj33m47_60) rfl (l' := #[.val (.int ((((p0.toUInt32 >>> ((8 : Int32) &&& 31).toUInt32).toInt32).toUInt32 >>> ((4 : Int32) &&& 31).toUInt32).toInt32)), .val (.int (19 : Int32))]) rfl) ?_
          refine OGets.step (fun _ => XS.iloadN X0.here hx rfl (hb hby dj33m47_61) rfl) ?_
          show OGets p e below _ (s₁.setTop (mkF m 62 #[.val (.int ((((p0.toUInt32 >>> ((8 : Int32) &&& 31).toUInt32).toInt32).toUInt32 >>> ((4 : Int32) &&& 31).toUInt32).toInt32)), .val (.int (19 : Int32))] [(.int ((((p0.toUInt32 >>> ((8 : Int32) &&& 31).toUInt32).toInt32).toUInt32 >>> ((4 : Int32) &&& 31).toUInt32).toInt32))]))
          refine OGets.step (fun _ => XS.iconst X0.here hx rfl (hb hby dj33m47_62)) ?_
          by_cases hc63_29 : ((((p0.toUInt32 >>> ((8 : Int32) &&& 31).toUInt32).toInt32).toUInt32 >>> ((4 : Int32) &&& 31).toUInt32).toInt32) < (4 : Int32)
          · refine OGets.step (fun _ => XS.icmpYes X0.here hx rfl (pc0 := 63) (pc' := 73) rfl (hb hby dj33m47_63) rfl (tlt hc63_29).1 (by decide) (by decide)) ?_
            have hv30 := hv28.trans (if_pos hc63_29)
            show OGets p e below _ (s₁.setTop (mkF m 73 #[.val (.int ((((p0.toUInt32 >>> ((8 : Int32) &&& 31).toUInt32).toInt32).toUInt32 >>> ((4 : Int32) &&& 31).toUInt32).toInt32)), .val (.int (19 : Int32))] []))
            refine OGets.step (fun _ => XS.iloadN X0.here hx rfl (hb hby dj33m47_73) rfl) ?_
            refine OGets.step (fun _ => XS.iloadN X0.here hx rfl (hb hby dj33m47_74) rfl) ?_
            refine OGets.step (fun _ => XS.iconst X0.here hx rfl (hb hby dj33m47_75)) ?_
            refine OGets.step (fun _ => XS.iushr X0.here hx rfl (hb hby dj33m47_76) rfl) ?_
            refine OGets.step (fun _ => XS.isub X0.here hx rfl (hb hby dj33m47_77) rfl) ?_
            refine OGets.retI X0 hx hlk Bd.returns (hb hby dj33m47_78) (Nat.le_of_ble_eq_true rfl) (Nat.le_of_ble_eq_true rfl) ?_
            exact ⟨congrArg (fun z => some (Value.int z)) hv30.symm, rfl, e0⟩
          · refine OGets.step (fun _ => XS.icmpNo X0.here hx rfl (hb hby dj33m47_63) rfl (flt hc63_29).1) ?_
            have hv31 := hv28.trans (if_neg hc63_29)
            show OGets p e below _ (s₁.setTop (mkF m 66 #[.val (.int ((((p0.toUInt32 >>> ((8 : Int32) &&& 31).toUInt32).toInt32).toUInt32 >>> ((4 : Int32) &&& 31).toUInt32).toInt32)), .val (.int (19 : Int32))] []))
            refine OGets.step (fun _ => XS.iinc X0.here hx rfl (hb hby dj33m47_66) rfl (l' := #[.val (.int ((((p0.toUInt32 >>> ((8 : Int32) &&& 31).toUInt32).toInt32).toUInt32 >>> ((4 : Int32) &&& 31).toUInt32).toInt32)), .val (.int (17 : Int32))]) rfl) ?_
            refine OGets.step (fun _ => XS.iloadN X0.here hx rfl (hb hby dj33m47_69) rfl) ?_
            refine OGets.step (fun _ => XS.iconst X0.here hx rfl (hb hby dj33m47_70)) ?_
            refine OGets.step (fun _ => XS.iushr X0.here hx rfl (hb hby dj33m47_71) rfl) ?_
            refine OGets.step (fun _ => XS.istoreN X0.here hx rfl (hb hby dj33m47_72) rfl (l' := #[.val (.int ((((((p0.toUInt32 >>> ((8 : Int32) &&& 31).toUInt32).toInt32).toUInt32 >>> ((4 : Int32) &&& 31).toUInt32).toInt32).toUInt32 >>> ((2 : Int32) &&& 31).toUInt32).toInt32)), .val (.int (17 : Int32))]) rfl) ?_
            refine OGets.step (fun _ => XS.iloadN X0.here hx rfl (hb hby dj33m47_73) rfl) ?_
            show OGets p e below _ (s₁.setTop (mkF m 74 #[.val (.int ((((((p0.toUInt32 >>> ((8 : Int32) &&& 31).toUInt32).toInt32).toUInt32 >>> ((4 : Int32) &&& 31).toUInt32).toInt32).toUInt32 >>> ((2 : Int32) &&& 31).toUInt32).toInt32)), .val (.int (17 : Int32))] [(.int (17 : Int32))]))
            refine OGets.step (fun _ => XS.iloadN X0.here hx rfl (hb hby dj33m47_74) rfl) ?_
            refine OGets.step (fun _ => XS.iconst X0.here hx rfl (hb hby dj33m47_75)) ?_
            refine OGets.step (fun _ => XS.iushr X0.here hx rfl (hb hby dj33m47_76) rfl) ?_
            refine OGets.step (fun _ => XS.isub X0.here hx rfl (hb hby dj33m47_77) rfl) ?_
            refine OGets.retI X0 hx hlk Bd.returns (hb hby dj33m47_78) (Nat.le_of_ble_eq_true rfl) (Nat.le_of_ble_eq_true rfl) ?_
            exact ⟨congrArg (fun z => some (Value.int z)) hv31.symm, rfl, e0⟩
    · refine OGets.step (fun _ => XS.icmpNo X0.here hx rfl (hb hby dj33m47_22) rfl (flt hc22_9).1) ?_
      have hv32 := hv8.trans (if_neg hc22_9)
      show OGets p e below _ (s₁.setTop (mkF m 25 #[.val (.int p0), .val (.int (31 : Int32))] []))
      refine OGets.step (fun _ => XS.iinc X0.here hx rfl (hb hby dj33m47_25) rfl (l' := #[.val (.int p0), .val (.int (15 : Int32))]) rfl) ?_
      refine OGets.step (fun _ => XS.iloadN X0.here hx rfl (hb hby dj33m47_28) rfl) ?_
      refine OGets.step (fun _ => XS.bipush X0.here hx rfl (hb hby dj33m47_29)) ?_
      refine OGets.step (fun _ => XS.iushr X0.here hx rfl (hb hby dj33m47_31) rfl) ?_
      refine OGets.step (fun _ => XS.istoreN X0.here hx rfl (hb hby dj33m47_32) rfl (l' := #[.val (.int ((p0.toUInt32 >>> ((16 : Int32) &&& 31).toUInt32).toInt32)), .val (.int (15 : Int32))]) rfl) ?_
      refine OGets.step (fun _ => XS.iloadN X0.here hx rfl (hb hby dj33m47_33) rfl) ?_
      show OGets p e below _ (s₁.setTop (mkF m 34 #[.val (.int ((p0.toUInt32 >>> ((16 : Int32) &&& 31).toUInt32).toInt32)), .val (.int (15 : Int32))] [(.int ((p0.toUInt32 >>> ((16 : Int32) &&& 31).toUInt32).toInt32))]))
      refine OGets.step (fun _ => XS.sipush X0.here hx rfl (hb hby dj33m47_34)) ?_
      by_cases hc37_33 : ((p0.toUInt32 >>> ((16 : Int32) &&& 31).toUInt32).toInt32) < (256 : Int32)
      · refine OGets.step (fun _ => XS.icmpYes X0.here hx rfl (pc0 := 37) (pc' := 48) rfl (hb hby dj33m47_37) rfl (tlt hc37_33).1 (by decide) (by decide)) ?_
        have hv34 := hv32.trans (if_pos hc37_33)
        show OGets p e below _ (s₁.setTop (mkF m 48 #[.val (.int ((p0.toUInt32 >>> ((16 : Int32) &&& 31).toUInt32).toInt32)), .val (.int (15 : Int32))] []))
        refine OGets.step (fun _ => XS.iloadN X0.here hx rfl (hb hby dj33m47_48) rfl) ?_
        refine OGets.step (fun _ => XS.bipush X0.here hx rfl (hb hby dj33m47_49)) ?_
        by_cases hc51_35 : ((p0.toUInt32 >>> ((16 : Int32) &&& 31).toUInt32).toInt32) < (16 : Int32)
        · refine OGets.step (fun _ => XS.icmpYes X0.here hx rfl (pc0 := 51) (pc' := 61) rfl (hb hby dj33m47_51) rfl (tlt hc51_35).1 (by decide) (by decide)) ?_
          have hv36 := hv34.trans (if_pos hc51_35)
          show OGets p e below _ (s₁.setTop (mkF m 61 #[.val (.int ((p0.toUInt32 >>> ((16 : Int32) &&& 31).toUInt32).toInt32)), .val (.int (15 : Int32))] []))
          refine OGets.step (fun _ => XS.iloadN X0.here hx rfl (hb hby dj33m47_61) rfl) ?_
          refine OGets.step (fun _ => XS.iconst X0.here hx rfl (hb hby dj33m47_62)) ?_
          by_cases hc63_37 : ((p0.toUInt32 >>> ((16 : Int32) &&& 31).toUInt32).toInt32) < (4 : Int32)
          · refine OGets.step (fun _ => XS.icmpYes X0.here hx rfl (pc0 := 63) (pc' := 73) rfl (hb hby dj33m47_63) rfl (tlt hc63_37).1 (by decide) (by decide)) ?_
            have hv38 := hv36.trans (if_pos hc63_37)
            show OGets p e below _ (s₁.setTop (mkF m 73 #[.val (.int ((p0.toUInt32 >>> ((16 : Int32) &&& 31).toUInt32).toInt32)), .val (.int (15 : Int32))] []))
            refine OGets.step (fun _ => XS.iloadN X0.here hx rfl (hb hby dj33m47_73) rfl) ?_
            refine OGets.step (fun _ => XS.iloadN X0.here hx rfl (hb hby dj33m47_74) rfl) ?_
            refine OGets.step (fun _ => XS.iconst X0.here hx rfl (hb hby dj33m47_75)) ?_
            refine OGets.step (fun _ => XS.iushr X0.here hx rfl (hb hby dj33m47_76) rfl) ?_
            refine OGets.step (fun _ => XS.isub X0.here hx rfl (hb hby dj33m47_77) rfl) ?_
            refine OGets.retI X0 hx hlk Bd.returns (hb hby dj33m47_78) (Nat.le_of_ble_eq_true rfl) (Nat.le_of_ble_eq_true rfl) ?_
            exact ⟨congrArg (fun z => some (Value.int z)) hv38.symm, rfl, e0⟩
          · refine OGets.step (fun _ => XS.icmpNo X0.here hx rfl (hb hby dj33m47_63) rfl (flt hc63_37).1) ?_
            have hv39 := hv36.trans (if_neg hc63_37)
            show OGets p e below _ (s₁.setTop (mkF m 66 #[.val (.int ((p0.toUInt32 >>> ((16 : Int32) &&& 31).toUInt32).toInt32)), .val (.int (15 : Int32))] []))
            refine OGets.step (fun _ => XS.iinc X0.here hx rfl (hb hby dj33m47_66) rfl (l' := #[.val (.int ((p0.toUInt32 >>> ((16 : Int32) &&& 31).toUInt32).toInt32)), .val (.int (13 : Int32))]) rfl) ?_
            refine OGets.step (fun _ => XS.iloadN X0.here hx rfl (hb hby dj33m47_69) rfl) ?_
            refine OGets.step (fun _ => XS.iconst X0.here hx rfl (hb hby dj33m47_70)) ?_
            refine OGets.step (fun _ => XS.iushr X0.here hx rfl (hb hby dj33m47_71) rfl) ?_
            refine OGets.step (fun _ => XS.istoreN X0.here hx rfl (hb hby dj33m47_72) rfl (l' := #[.val (.int ((((p0.toUInt32 >>> ((16 : Int32) &&& 31).toUInt32).toInt32).toUInt32 >>> ((2 : Int32) &&& 31).toUInt32).toInt32)), .val (.int (13 : Int32))]) rfl) ?_
            refine OGets.step (fun _ => XS.iloadN X0.here hx rfl (hb hby dj33m47_73) rfl) ?_
            show OGets p e below _ (s₁.setTop (mkF m 74 #[.val (.int ((((p0.toUInt32 >>> ((16 : Int32) &&& 31).toUInt32).toInt32).toUInt32 >>> ((2 : Int32) &&& 31).toUInt32).toInt32)), .val (.int (13 : Int32))] [(.int (13 : Int32))]))
            refine OGets.step (fun _ => XS.iloadN X0.here hx rfl (hb hby dj33m47_74) rfl) ?_
            refine OGets.step (fun _ => XS.iconst X0.here hx rfl (hb hby dj33m47_75)) ?_
            refine OGets.step (fun _ => XS.iushr X0.here hx rfl (hb hby dj33m47_76) rfl) ?_
            refine OGets.step (fun _ => XS.isub X0.here hx rfl (hb hby dj33m47_77) rfl) ?_
            refine OGets.retI X0 hx hlk Bd.returns (hb hby dj33m47_78) (Nat.le_of_ble_eq_true rfl) (Nat.le_of_ble_eq_true rfl) ?_
            exact ⟨congrArg (fun z => some (Value.int z)) hv39.symm, rfl, e0⟩
        · refine OGets.step (fun _ => XS.icmpNo X0.here hx rfl (hb hby dj33m47_51) rfl (flt hc51_35).1) ?_
          have hv40 := hv34.trans (if_neg hc51_35)
          show OGets p e below _ (s₁.setTop (mkF m 54 #[.val (.int ((p0.toUInt32 >>> ((16 : Int32) &&& 31).toUInt32).toInt32)), .val (.int (15 : Int32))] []))
          refine OGets.step (fun _ => XS.iinc X0.here hx rfl (hb hby dj33m47_54) rfl (l' := #[.val (.int ((p0.toUInt32 >>> ((16 : Int32) &&& 31).toUInt32).toInt32)), .val (.int (11 : Int32))]) rfl) ?_
          refine OGets.step (fun _ => XS.iloadN X0.here hx rfl (hb hby dj33m47_57) rfl) ?_
          refine OGets.step (fun _ => XS.iconst X0.here hx rfl (hb hby dj33m47_58)) ?_
          refine OGets.step (fun _ => XS.iushr X0.here hx rfl (hb hby dj33m47_59) rfl) ?_
          refine OGets.step (fun _ => XS.istoreN X0.here hx rfl (hb hby dj33m47_60) rfl (l' := #[.val (.int ((((p0.toUInt32 >>> ((16 : Int32) &&& 31).toUInt32).toInt32).toUInt32 >>> ((4 : Int32) &&& 31).toUInt32).toInt32)), .val (.int (11 : Int32))]) rfl) ?_
          refine OGets.step (fun _ => XS.iloadN X0.here hx rfl (hb hby dj33m47_61) rfl) ?_
          show OGets p e below _ (s₁.setTop (mkF m 62 #[.val (.int ((((p0.toUInt32 >>> ((16 : Int32) &&& 31).toUInt32).toInt32).toUInt32 >>> ((4 : Int32) &&& 31).toUInt32).toInt32)), .val (.int (11 : Int32))] [(.int ((((p0.toUInt32 >>> ((16 : Int32) &&& 31).toUInt32).toInt32).toUInt32 >>> ((4 : Int32) &&& 31).toUInt32).toInt32))]))
          refine OGets.step (fun _ => XS.iconst X0.here hx rfl (hb hby dj33m47_62)) ?_
          by_cases hc63_41 : ((((p0.toUInt32 >>> ((16 : Int32) &&& 31).toUInt32).toInt32).toUInt32 >>> ((4 : Int32) &&& 31).toUInt32).toInt32) < (4 : Int32)
          · refine OGets.step (fun _ => XS.icmpYes X0.here hx rfl (pc0 := 63) (pc' := 73) rfl (hb hby dj33m47_63) rfl (tlt hc63_41).1 (by decide) (by decide)) ?_
            have hv42 := hv40.trans (if_pos hc63_41)
            show OGets p e below _ (s₁.setTop (mkF m 73 #[.val (.int ((((p0.toUInt32 >>> ((16 : Int32) &&& 31).toUInt32).toInt32).toUInt32 >>> ((4 : Int32) &&& 31).toUInt32).toInt32)), .val (.int (11 : Int32))] []))
            refine OGets.step (fun _ => XS.iloadN X0.here hx rfl (hb hby dj33m47_73) rfl) ?_
            refine OGets.step (fun _ => XS.iloadN X0.here hx rfl (hb hby dj33m47_74) rfl) ?_
            refine OGets.step (fun _ => XS.iconst X0.here hx rfl (hb hby dj33m47_75)) ?_
            refine OGets.step (fun _ => XS.iushr X0.here hx rfl (hb hby dj33m47_76) rfl) ?_
            refine OGets.step (fun _ => XS.isub X0.here hx rfl (hb hby dj33m47_77) rfl) ?_
            refine OGets.retI X0 hx hlk Bd.returns (hb hby dj33m47_78) (Nat.le_of_ble_eq_true rfl) (Nat.le_of_ble_eq_true rfl) ?_
            exact ⟨congrArg (fun z => some (Value.int z)) hv42.symm, rfl, e0⟩
          · refine OGets.step (fun _ => XS.icmpNo X0.here hx rfl (hb hby dj33m47_63) rfl (flt hc63_41).1) ?_
            have hv43 := hv40.trans (if_neg hc63_41)
            show OGets p e below _ (s₁.setTop (mkF m 66 #[.val (.int ((((p0.toUInt32 >>> ((16 : Int32) &&& 31).toUInt32).toInt32).toUInt32 >>> ((4 : Int32) &&& 31).toUInt32).toInt32)), .val (.int (11 : Int32))] []))
            refine OGets.step (fun _ => XS.iinc X0.here hx rfl (hb hby dj33m47_66) rfl (l' := #[.val (.int ((((p0.toUInt32 >>> ((16 : Int32) &&& 31).toUInt32).toInt32).toUInt32 >>> ((4 : Int32) &&& 31).toUInt32).toInt32)), .val (.int (9 : Int32))]) rfl) ?_
            refine OGets.step (fun _ => XS.iloadN X0.here hx rfl (hb hby dj33m47_69) rfl) ?_
            refine OGets.step (fun _ => XS.iconst X0.here hx rfl (hb hby dj33m47_70)) ?_
            refine OGets.step (fun _ => XS.iushr X0.here hx rfl (hb hby dj33m47_71) rfl) ?_
            refine OGets.step (fun _ => XS.istoreN X0.here hx rfl (hb hby dj33m47_72) rfl (l' := #[.val (.int ((((((p0.toUInt32 >>> ((16 : Int32) &&& 31).toUInt32).toInt32).toUInt32 >>> ((4 : Int32) &&& 31).toUInt32).toInt32).toUInt32 >>> ((2 : Int32) &&& 31).toUInt32).toInt32)), .val (.int (9 : Int32))]) rfl) ?_
            refine OGets.step (fun _ => XS.iloadN X0.here hx rfl (hb hby dj33m47_73) rfl) ?_
            show OGets p e below _ (s₁.setTop (mkF m 74 #[.val (.int ((((((p0.toUInt32 >>> ((16 : Int32) &&& 31).toUInt32).toInt32).toUInt32 >>> ((4 : Int32) &&& 31).toUInt32).toInt32).toUInt32 >>> ((2 : Int32) &&& 31).toUInt32).toInt32)), .val (.int (9 : Int32))] [(.int (9 : Int32))]))
            refine OGets.step (fun _ => XS.iloadN X0.here hx rfl (hb hby dj33m47_74) rfl) ?_
            refine OGets.step (fun _ => XS.iconst X0.here hx rfl (hb hby dj33m47_75)) ?_
            refine OGets.step (fun _ => XS.iushr X0.here hx rfl (hb hby dj33m47_76) rfl) ?_
            refine OGets.step (fun _ => XS.isub X0.here hx rfl (hb hby dj33m47_77) rfl) ?_
            refine OGets.retI X0 hx hlk Bd.returns (hb hby dj33m47_78) (Nat.le_of_ble_eq_true rfl) (Nat.le_of_ble_eq_true rfl) ?_
            exact ⟨congrArg (fun z => some (Value.int z)) hv43.symm, rfl, e0⟩
      · refine OGets.step (fun _ => XS.icmpNo X0.here hx rfl (hb hby dj33m47_37) rfl (flt hc37_33).1) ?_
        have hv44 := hv32.trans (if_neg hc37_33)
        show OGets p e below _ (s₁.setTop (mkF m 40 #[.val (.int ((p0.toUInt32 >>> ((16 : Int32) &&& 31).toUInt32).toInt32)), .val (.int (15 : Int32))] []))
        refine OGets.step (fun _ => XS.iinc X0.here hx rfl (hb hby dj33m47_40) rfl (l' := #[.val (.int ((p0.toUInt32 >>> ((16 : Int32) &&& 31).toUInt32).toInt32)), .val (.int (7 : Int32))]) rfl) ?_
        refine OGets.step (fun _ => XS.iloadN X0.here hx rfl (hb hby dj33m47_43) rfl) ?_
        refine OGets.step (fun _ => XS.bipush X0.here hx rfl (hb hby dj33m47_44)) ?_
        refine OGets.step (fun _ => XS.iushr X0.here hx rfl (hb hby dj33m47_46) rfl) ?_
        refine OGets.step (fun _ => XS.istoreN X0.here hx rfl (hb hby dj33m47_47) rfl (l' := #[.val (.int ((((p0.toUInt32 >>> ((16 : Int32) &&& 31).toUInt32).toInt32).toUInt32 >>> ((8 : Int32) &&& 31).toUInt32).toInt32)), .val (.int (7 : Int32))]) rfl) ?_
        refine OGets.step (fun _ => XS.iloadN X0.here hx rfl (hb hby dj33m47_48) rfl) ?_
        show OGets p e below _ (s₁.setTop (mkF m 49 #[.val (.int ((((p0.toUInt32 >>> ((16 : Int32) &&& 31).toUInt32).toInt32).toUInt32 >>> ((8 : Int32) &&& 31).toUInt32).toInt32)), .val (.int (7 : Int32))] [(.int ((((p0.toUInt32 >>> ((16 : Int32) &&& 31).toUInt32).toInt32).toUInt32 >>> ((8 : Int32) &&& 31).toUInt32).toInt32))]))
        refine OGets.step (fun _ => XS.bipush X0.here hx rfl (hb hby dj33m47_49)) ?_
        by_cases hc51_45 : ((((p0.toUInt32 >>> ((16 : Int32) &&& 31).toUInt32).toInt32).toUInt32 >>> ((8 : Int32) &&& 31).toUInt32).toInt32) < (16 : Int32)
        · refine OGets.step (fun _ => XS.icmpYes X0.here hx rfl (pc0 := 51) (pc' := 61) rfl (hb hby dj33m47_51) rfl (tlt hc51_45).1 (by decide) (by decide)) ?_
          have hv46 := hv44.trans (if_pos hc51_45)
          show OGets p e below _ (s₁.setTop (mkF m 61 #[.val (.int ((((p0.toUInt32 >>> ((16 : Int32) &&& 31).toUInt32).toInt32).toUInt32 >>> ((8 : Int32) &&& 31).toUInt32).toInt32)), .val (.int (7 : Int32))] []))
          refine OGets.step (fun _ => XS.iloadN X0.here hx rfl (hb hby dj33m47_61) rfl) ?_
          refine OGets.step (fun _ => XS.iconst X0.here hx rfl (hb hby dj33m47_62)) ?_
          by_cases hc63_47 : ((((p0.toUInt32 >>> ((16 : Int32) &&& 31).toUInt32).toInt32).toUInt32 >>> ((8 : Int32) &&& 31).toUInt32).toInt32) < (4 : Int32)
          · refine OGets.step (fun _ => XS.icmpYes X0.here hx rfl (pc0 := 63) (pc' := 73) rfl (hb hby dj33m47_63) rfl (tlt hc63_47).1 (by decide) (by decide)) ?_
            have hv48 := hv46.trans (if_pos hc63_47)
            show OGets p e below _ (s₁.setTop (mkF m 73 #[.val (.int ((((p0.toUInt32 >>> ((16 : Int32) &&& 31).toUInt32).toInt32).toUInt32 >>> ((8 : Int32) &&& 31).toUInt32).toInt32)), .val (.int (7 : Int32))] []))
            refine OGets.step (fun _ => XS.iloadN X0.here hx rfl (hb hby dj33m47_73) rfl) ?_
            refine OGets.step (fun _ => XS.iloadN X0.here hx rfl (hb hby dj33m47_74) rfl) ?_
            refine OGets.step (fun _ => XS.iconst X0.here hx rfl (hb hby dj33m47_75)) ?_
            refine OGets.step (fun _ => XS.iushr X0.here hx rfl (hb hby dj33m47_76) rfl) ?_
            refine OGets.step (fun _ => XS.isub X0.here hx rfl (hb hby dj33m47_77) rfl) ?_
            refine OGets.retI X0 hx hlk Bd.returns (hb hby dj33m47_78) (Nat.le_of_ble_eq_true rfl) (Nat.le_of_ble_eq_true rfl) ?_
            exact ⟨congrArg (fun z => some (Value.int z)) hv48.symm, rfl, e0⟩
          · refine OGets.step (fun _ => XS.icmpNo X0.here hx rfl (hb hby dj33m47_63) rfl (flt hc63_47).1) ?_
            have hv49 := hv46.trans (if_neg hc63_47)
            show OGets p e below _ (s₁.setTop (mkF m 66 #[.val (.int ((((p0.toUInt32 >>> ((16 : Int32) &&& 31).toUInt32).toInt32).toUInt32 >>> ((8 : Int32) &&& 31).toUInt32).toInt32)), .val (.int (7 : Int32))] []))
            refine OGets.step (fun _ => XS.iinc X0.here hx rfl (hb hby dj33m47_66) rfl (l' := #[.val (.int ((((p0.toUInt32 >>> ((16 : Int32) &&& 31).toUInt32).toInt32).toUInt32 >>> ((8 : Int32) &&& 31).toUInt32).toInt32)), .val (.int (5 : Int32))]) rfl) ?_
            refine OGets.step (fun _ => XS.iloadN X0.here hx rfl (hb hby dj33m47_69) rfl) ?_
            refine OGets.step (fun _ => XS.iconst X0.here hx rfl (hb hby dj33m47_70)) ?_
            refine OGets.step (fun _ => XS.iushr X0.here hx rfl (hb hby dj33m47_71) rfl) ?_
            refine OGets.step (fun _ => XS.istoreN X0.here hx rfl (hb hby dj33m47_72) rfl (l' := #[.val (.int ((((((p0.toUInt32 >>> ((16 : Int32) &&& 31).toUInt32).toInt32).toUInt32 >>> ((8 : Int32) &&& 31).toUInt32).toInt32).toUInt32 >>> ((2 : Int32) &&& 31).toUInt32).toInt32)), .val (.int (5 : Int32))]) rfl) ?_
            refine OGets.step (fun _ => XS.iloadN X0.here hx rfl (hb hby dj33m47_73) rfl) ?_
            show OGets p e below _ (s₁.setTop (mkF m 74 #[.val (.int ((((((p0.toUInt32 >>> ((16 : Int32) &&& 31).toUInt32).toInt32).toUInt32 >>> ((8 : Int32) &&& 31).toUInt32).toInt32).toUInt32 >>> ((2 : Int32) &&& 31).toUInt32).toInt32)), .val (.int (5 : Int32))] [(.int (5 : Int32))]))
            refine OGets.step (fun _ => XS.iloadN X0.here hx rfl (hb hby dj33m47_74) rfl) ?_
            refine OGets.step (fun _ => XS.iconst X0.here hx rfl (hb hby dj33m47_75)) ?_
            refine OGets.step (fun _ => XS.iushr X0.here hx rfl (hb hby dj33m47_76) rfl) ?_
            refine OGets.step (fun _ => XS.isub X0.here hx rfl (hb hby dj33m47_77) rfl) ?_
            refine OGets.retI X0 hx hlk Bd.returns (hb hby dj33m47_78) (Nat.le_of_ble_eq_true rfl) (Nat.le_of_ble_eq_true rfl) ?_
            exact ⟨congrArg (fun z => some (Value.int z)) hv49.symm, rfl, e0⟩
        · refine OGets.step (fun _ => XS.icmpNo X0.here hx rfl (hb hby dj33m47_51) rfl (flt hc51_45).1) ?_
          have hv50 := hv44.trans (if_neg hc51_45)
          show OGets p e below _ (s₁.setTop (mkF m 54 #[.val (.int ((((p0.toUInt32 >>> ((16 : Int32) &&& 31).toUInt32).toInt32).toUInt32 >>> ((8 : Int32) &&& 31).toUInt32).toInt32)), .val (.int (7 : Int32))] []))
          refine OGets.step (fun _ => XS.iinc X0.here hx rfl (hb hby dj33m47_54) rfl (l' := #[.val (.int ((((p0.toUInt32 >>> ((16 : Int32) &&& 31).toUInt32).toInt32).toUInt32 >>> ((8 : Int32) &&& 31).toUInt32).toInt32)), .val (.int (3 : Int32))]) rfl) ?_
          refine OGets.step (fun _ => XS.iloadN X0.here hx rfl (hb hby dj33m47_57) rfl) ?_
          refine OGets.step (fun _ => XS.iconst X0.here hx rfl (hb hby dj33m47_58)) ?_
          refine OGets.step (fun _ => XS.iushr X0.here hx rfl (hb hby dj33m47_59) rfl) ?_
          refine OGets.step (fun _ => XS.istoreN X0.here hx rfl (hb hby dj33m47_60) rfl (l' := #[.val (.int ((((((p0.toUInt32 >>> ((16 : Int32) &&& 31).toUInt32).toInt32).toUInt32 >>> ((8 : Int32) &&& 31).toUInt32).toInt32).toUInt32 >>> ((4 : Int32) &&& 31).toUInt32).toInt32)), .val (.int (3 : Int32))]) rfl) ?_
          refine OGets.step (fun _ => XS.iloadN X0.here hx rfl (hb hby dj33m47_61) rfl) ?_
          show OGets p e below _ (s₁.setTop (mkF m 62 #[.val (.int ((((((p0.toUInt32 >>> ((16 : Int32) &&& 31).toUInt32).toInt32).toUInt32 >>> ((8 : Int32) &&& 31).toUInt32).toInt32).toUInt32 >>> ((4 : Int32) &&& 31).toUInt32).toInt32)), .val (.int (3 : Int32))] [(.int ((((((p0.toUInt32 >>> ((16 : Int32) &&& 31).toUInt32).toInt32).toUInt32 >>> ((8 : Int32) &&& 31).toUInt32).toInt32).toUInt32 >>> ((4 : Int32) &&& 31).toUInt32).toInt32))]))
          refine OGets.step (fun _ => XS.iconst X0.here hx rfl (hb hby dj33m47_62)) ?_
          by_cases hc63_51 : ((((((p0.toUInt32 >>> ((16 : Int32) &&& 31).toUInt32).toInt32).toUInt32 >>> ((8 : Int32) &&& 31).toUInt32).toInt32).toUInt32 >>> ((4 : Int32) &&& 31).toUInt32).toInt32) < (4 : Int32)
          · refine OGets.step (fun _ => XS.icmpYes X0.here hx rfl (pc0 := 63) (pc' := 73) rfl (hb hby dj33m47_63) rfl (tlt hc63_51).1 (by decide) (by decide)) ?_
            have hv52 := hv50.trans (if_pos hc63_51)
            show OGets p e below _ (s₁.setTop (mkF m 73 #[.val (.int ((((((p0.toUInt32 >>> ((16 : Int32) &&& 31).toUInt32).toInt32).toUInt32 >>> ((8 : Int32) &&& 31).toUInt32).toInt32).toUInt32 >>> ((4 : Int32) &&& 31).toUInt32).toInt32)), .val (.int (3 : Int32))] []))
            refine OGets.step (fun _ => XS.iloadN X0.here hx rfl (hb hby dj33m47_73) rfl) ?_
            refine OGets.step (fun _ => XS.iloadN X0.here hx rfl (hb hby dj33m47_74) rfl) ?_
            refine OGets.step (fun _ => XS.iconst X0.here hx rfl (hb hby dj33m47_75)) ?_
            refine OGets.step (fun _ => XS.iushr X0.here hx rfl (hb hby dj33m47_76) rfl) ?_
            refine OGets.step (fun _ => XS.isub X0.here hx rfl (hb hby dj33m47_77) rfl) ?_
            refine OGets.retI X0 hx hlk Bd.returns (hb hby dj33m47_78) (Nat.le_of_ble_eq_true rfl) (Nat.le_of_ble_eq_true rfl) ?_
            exact ⟨congrArg (fun z => some (Value.int z)) hv52.symm, rfl, e0⟩
          · refine OGets.step (fun _ => XS.icmpNo X0.here hx rfl (hb hby dj33m47_63) rfl (flt hc63_51).1) ?_
            have hv53 := hv50.trans (if_neg hc63_51)
            show OGets p e below _ (s₁.setTop (mkF m 66 #[.val (.int ((((((p0.toUInt32 >>> ((16 : Int32) &&& 31).toUInt32).toInt32).toUInt32 >>> ((8 : Int32) &&& 31).toUInt32).toInt32).toUInt32 >>> ((4 : Int32) &&& 31).toUInt32).toInt32)), .val (.int (3 : Int32))] []))
            refine OGets.step (fun _ => XS.iinc X0.here hx rfl (hb hby dj33m47_66) rfl (l' := #[.val (.int ((((((p0.toUInt32 >>> ((16 : Int32) &&& 31).toUInt32).toInt32).toUInt32 >>> ((8 : Int32) &&& 31).toUInt32).toInt32).toUInt32 >>> ((4 : Int32) &&& 31).toUInt32).toInt32)), .val (.int (1 : Int32))]) rfl) ?_
            refine OGets.step (fun _ => XS.iloadN X0.here hx rfl (hb hby dj33m47_69) rfl) ?_
            refine OGets.step (fun _ => XS.iconst X0.here hx rfl (hb hby dj33m47_70)) ?_
            refine OGets.step (fun _ => XS.iushr X0.here hx rfl (hb hby dj33m47_71) rfl) ?_
            refine OGets.step (fun _ => XS.istoreN X0.here hx rfl (hb hby dj33m47_72) rfl (l' := #[.val (.int ((((((((p0.toUInt32 >>> ((16 : Int32) &&& 31).toUInt32).toInt32).toUInt32 >>> ((8 : Int32) &&& 31).toUInt32).toInt32).toUInt32 >>> ((4 : Int32) &&& 31).toUInt32).toInt32).toUInt32 >>> ((2 : Int32) &&& 31).toUInt32).toInt32)), .val (.int (1 : Int32))]) rfl) ?_
            refine OGets.step (fun _ => XS.iloadN X0.here hx rfl (hb hby dj33m47_73) rfl) ?_
            show OGets p e below _ (s₁.setTop (mkF m 74 #[.val (.int ((((((((p0.toUInt32 >>> ((16 : Int32) &&& 31).toUInt32).toInt32).toUInt32 >>> ((8 : Int32) &&& 31).toUInt32).toInt32).toUInt32 >>> ((4 : Int32) &&& 31).toUInt32).toInt32).toUInt32 >>> ((2 : Int32) &&& 31).toUInt32).toInt32)), .val (.int (1 : Int32))] [(.int (1 : Int32))]))
            refine OGets.step (fun _ => XS.iloadN X0.here hx rfl (hb hby dj33m47_74) rfl) ?_
            refine OGets.step (fun _ => XS.iconst X0.here hx rfl (hb hby dj33m47_75)) ?_
            refine OGets.step (fun _ => XS.iushr X0.here hx rfl (hb hby dj33m47_76) rfl) ?_
            refine OGets.step (fun _ => XS.isub X0.here hx rfl (hb hby dj33m47_77) rfl) ?_
            refine OGets.retI X0 hx hlk Bd.returns (hb hby dj33m47_78) (Nat.le_of_ble_eq_true rfl) (Nat.le_of_ble_eq_true rfl) ?_
            exact ⟨congrArg (fun z => some (Value.int z)) hv53.symm, rfl, e0⟩
  · refine OGets.step (fun _ => XS.ifNo X0.here hx rfl (hb hby dj33m47_1) rfl ((if0 _ _).trans (flt hc1_7).2.2.1)) ?_
    have hv54 := hv0.trans (if_neg hc1_7)
    show OGets p e below _ (s₁.setTop (mkF m 4 #[.val (.int p0), .unset] []))
    refine OGets.step (fun _ => XS.iloadN X0.here hx rfl (hb hby dj33m47_4) rfl) ?_
    by_cases hc5_55 : p0 = (0 : Int32)
    · refine OGets.step (fun _ => XS.ifNo X0.here hx rfl (hb hby dj33m47_5) rfl ((if0 _ _).trans (teq hc5_55).2)) ?_
      have hv56 := hv54.trans (if_pos hc5_55)
      show OGets p e below _ (s₁.setTop (mkF m 8 #[.val (.int p0), .unset] []))
      refine OGets.step (fun _ => XS.bipush X0.here hx rfl (hb hby dj33m47_8)) ?_
      refine OGets.step (fun _ => XS.goto X0.here hx rfl (pc0 := 10) (pc' := 14) rfl (hb hby dj33m47_10) (by decide) (by decide)) ?_
      refine OGets.retI X0 hx hlk Bd.returns (hb hby dj33m47_14) (Nat.le_of_ble_eq_true rfl) (Nat.le_of_ble_eq_true rfl) ?_
      exact ⟨congrArg (fun z => some (Value.int z)) hv56.symm, rfl, e0⟩
    · refine OGets.step (fun _ => XS.ifYes X0.here hx rfl (pc0 := 5) (pc' := 13) rfl (hb hby dj33m47_5) rfl ((if0 _ _).trans (feq hc5_55).2) (by decide) (by decide)) ?_
      have hv57 := hv54.trans (if_neg hc5_55)
      show OGets p e below _ (s₁.setTop (mkF m 13 #[.val (.int p0), .unset] []))
      refine OGets.step (fun _ => XS.iconst X0.here hx rfl (hb hby dj33m47_13)) ?_
      refine OGets.retI X0 hx hlk Bd.returns (hb hby dj33m47_14) (Nat.le_of_ble_eq_true rfl) (Nat.le_of_ble_eq_true rfl) ?_
      exact ⟨congrArg (fun z => some (Value.int z)) hv57.symm, rfl, e0⟩
def f_nl (p0 : Int64) : Int32 := (if (((p0.toUInt64 >>> ((32 : Int32) &&& 0x3f).toInt64.toUInt64).toInt64).toInt32) = (0 : Int32) then ((32 : Int32) + (f_ni (p0.toInt32))) else (f_ni (((p0.toUInt64 >>> ((32 : Int32) &&& 0x3f).toInt64.toUInt64).toInt64).toInt32)))
theorem pn_2 : plainName "java/lang/Long" = true := by first | (simp [plainName, overriddenIn]; done) | decide +kernel
theorem dj35m48_0 : decode jdk_35_method_48_code 0 = .ok (.lload_n 0, 1) := by decide +kernel
theorem dj35m48_1 : decode jdk_35_method_48_code 1 = .ok (.bipush 32, 2) := by decide +kernel
theorem dj35m48_3 : decode jdk_35_method_48_code 3 = .ok (.lushr, 1) := by decide +kernel
theorem dj35m48_4 : decode jdk_35_method_48_code 4 = .ok (.l2i, 1) := by decide +kernel
theorem dj35m48_5 : decode jdk_35_method_48_code 5 = .ok (.istore_n 2, 1) := by decide +kernel
theorem dj35m48_6 : decode jdk_35_method_48_code 6 = .ok (.iload_n 2, 1) := by decide +kernel
theorem dj35m48_7 : decode jdk_35_method_48_code 7 = .ok (.ifCond .ne 14, 3) := by decide +kernel
theorem dj35m48_10 : decode jdk_35_method_48_code 10 = .ok (.bipush 32, 2) := by decide +kernel
theorem dj35m48_12 : decode jdk_35_method_48_code 12 = .ok (.lload_n 0, 1) := by decide +kernel
theorem dj35m48_13 : decode jdk_35_method_48_code 13 = .ok (.l2i, 1) := by decide +kernel
theorem dj35m48_14 : decode jdk_35_method_48_code 14 = .ok (.invokestatic 308, 3) := by decide +kernel
theorem pd_3 : parseMethodDescriptor "(I)I" = some ⟨[.int], some .int⟩ := by decide +kernel
theorem dj35m48_17 : decode jdk_35_method_48_code 17 = .ok (.iadd, 1) := by decide +kernel
theorem dj35m48_18 : decode jdk_35_method_48_code 18 = .ok (.goto 7, 3) := by decide +kernel
theorem dj35m48_25 : decode jdk_35_method_48_code 25 = .ok (.ireturn, 1) := by decide +kernel
theorem dj35m48_21 : decode jdk_35_method_48_code 21 = .ok (.iload_n 2, 1) := by decide +kernel
theorem dj35m48_22 : decode jdk_35_method_48_code 22 = .ok (.invokestatic 308, 3) := by decide +kernel
theorem ef_nl (m : MethodId) (x0 : Int64) : entryFrame m #[(.long x0)] 3 = mkF m 0 #[.val (.long x0), .second, .unset] [] := by first | (simp [entryFrame, mkF, argsToLocals, Value.category]; done) | rfl
def Q_nl (Z : State) (p0 : Int64) (h0 : Heap) (n0 : Nat) (v : Option Value) (h : Heap) (L : List Loc) : Prop := v = some (.int (f_nl p0)) ∧ L = [] ∧ h = h0
set_option maxRecDepth 65536 in
set_option maxHeartbeats 40000000 in
theorem rm_nl (l : Launch) (Z : State) (a0 : Array Value) (hw : ∀ d ∈ tables_1, d.before a0 Z = true) (ws : List Jvm.Cond) (p0 : Int64) (h0 : Heap) (n0 : Nat) (Z0 : n0 ≤ h0.size) :
    MetFree l (⟨"java/lang/Long", "numberOfLeadingZeros", "(J)I"⟩ : MethodName) (head1 (Jvm.Cond.code (⟨"java/lang/Long", "numberOfLeadingZeros", "(J)I"⟩ : MethodName) jdk_35_method_48_code 3 (some .int) :: ws) ({ frames := 1, cells := 0, slots := 0, locals := 14 } : Room)) (fun a_ U => a_ = #[(.long p0)] ∧ Z.Warmed39 U.vm ∧ U.heap = h0) (fun _ _ _ _ _ => True) (fun _ U o U' => ∃ v L, o = .returned v ∧ Q_nl Z p0 h0 n0 v U'.heap L ∧ FrameEnd U o U' L ({ frames := 1, cells := 0, slots := 0, locals := 14 } : Room).cells ({ frames := 1, cells := 0, slots := 0, locals := 14 } : Room).slots) := by
  refine MetFree.of_bodySF (plainFor_of_name pn_2) hisR ?_
  intro p e s m args below meth c s₁ Bd hml0 hP hK
  obtain ⟨rfl, hZ, hh⟩ := hP
  have hx := Bd.exec
  have hby := Bd.bytes
  have hlk : meth.locks = false := Bd.notSynchronized
  have hml : c.maxLocals = 3 := hml0
  have hown : s.vm.findClass "java/lang/Long" = some m.cls := findClass_of_methodNamed Bd.named
  have hnm := (name_of_methodNamed Bd.named Bd.method).1
  have X0 : Stand p l e ({ frames := 1, cells := 0, slots := 0, locals := 14 } : Room) s m #[(.long p0)] below meth c s₁ [] 0 0 := Stand.of_body Bd
  have e0 : s₁.heap = h0 := by rw [← hh, Bd.state]; rfl
  have N0 := Fr.nil n0
  have hv0 : f_nl p0 = (if (((p0.toUInt64 >>> ((32 : Int32) &&& 0x3f).toInt64.toUInt64).toInt64).toInt32) = (0 : Int32) then ((32 : Int32) + (f_ni (p0.toInt32))) else (f_ni (((p0.toUInt64 >>> ((32 : Int32) &&& 0x3f).toInt64.toUInt64).toInt64).toInt32))) := rfl
  show OGets p e below (OLeaves s (Q_nl Z p0 h0 n0 ) ({ frames := 1, cells := 0, slots := 0, locals := 14 } : Room).cells ({ frames := 1, cells := 0, slots := 0, locals := 14 } : Room).slots) _
  refine OGets.enter (ef_nl m p0) ?_
  show OGets p e below _ (s₁.setTop (mkF m 0 #[.val (.long p0), .second, .unset] []))
  refine OGets.step (fun _ => XS.lloadN X0.here hx rfl (hb hby dj35m48_0) rfl) ?_
  refine OGets.step (fun _ => XS.bipush X0.here hx rfl (hb hby dj35m48_1)) ?_
  refine OGets.step (fun _ => XS.lushr X0.here hx rfl (hb hby dj35m48_3) rfl) ?_
  refine OGets.step (fun _ => XS.l2i X0.here hx rfl (hb hby dj35m48_4) rfl) ?_
  refine OGets.step (fun _ => XS.istoreN X0.here hx rfl (hb hby dj35m48_5) rfl (l' := #[.val (.long p0), .second, .val (.int (((p0.toUInt64 >>> ((32 : Int32) &&& 0x3f).toInt64.toUInt64).toInt64).toInt32))]) rfl) ?_
  refine OGets.step (fun _ => XS.iloadN X0.here hx rfl (hb hby dj35m48_6) rfl) ?_
  show OGets p e below _ (s₁.setTop (mkF m 7 #[.val (.long p0), .second, .val (.int (((p0.toUInt64 >>> ((32 : Int32) &&& 0x3f).toInt64.toUInt64).toInt64).toInt32))] [(.int (((p0.toUInt64 >>> ((32 : Int32) &&& 0x3f).toInt64.toUInt64).toInt64).toInt32))]))
  by_cases hc7_58 : (((p0.toUInt64 >>> ((32 : Int32) &&& 0x3f).toInt64.toUInt64).toInt64).toInt32) = (0 : Int32)
  · refine OGets.step (fun _ => XS.ifNo X0.here hx rfl (hb hby dj35m48_7) rfl ((if0 _ _).trans (teq hc7_58).2)) ?_
    have hv59 := hv0.trans (if_pos hc7_58)
    show OGets p e below _ (s₁.setTop (mkF m 10 #[.val (.long p0), .second, .val (.int (((p0.toUInt64 >>> ((32 : Int32) &&& 0x3f).toInt64.toUInt64).toInt64).toInt32))] []))
    refine OGets.step (fun _ => XS.bipush X0.here hx rfl (hb hby dj35m48_10)) ?_
    refine OGets.step (fun _ => XS.lloadN X0.here hx rfl (hb hby dj35m48_12) rfl) ?_
    refine OGets.step (fun _ => XS.l2i X0.here hx rfl (hb hby dj35m48_13) rfl) ?_
    obtain ⟨_, _, ⟨T60, L60, k60, n60⟩, -, X60, ⟨Lc60, hQ60, l60, y60, z60⟩, st60⟩ := Jvm.LawKit.callS X0 hx (y := (⟨"java/lang/Integer", "numberOfLeadingZeros", "(I)I"⟩ : MethodName)) hown (mvT hZ (hw _ (List.mem_of_getElem? (i := 169) rfl))) (mvT hZ (hw _ (List.mem_of_getElem? (i := 170) rfl))) (mvT hZ (hw _ (List.mem_of_getElem? (i := 171) rfl))) (mvT hZ (hw _ (List.mem_of_getElem? (i := 172) rfl))) (by decide) (backOf (W := 1) (rm_ni l Z a0 hw [] (p0.toInt32) h0 n0  Z0 ) hZ (hw _ (List.mem_of_getElem? (i := 172) rfl)) (hw _ (List.mem_of_getElem? (i := 171) rfl)) (by decide) (by decide)) (g := (mkF m 14 #[.val (.long p0), .second, .val (.int (((p0.toUInt64 >>> ((32 : Int32) &&& 0x3f).toInt64.toUInt64).toInt64).toInt32))] [(.int (p0.toInt32)), (.int (32 : Int32))])) rfl (by rw [hml]; rfl) (argsL := [(.int (p0.toInt32))]) (rest := [(.int (32 : Int32))]) (lenOf pd_3 rfl) rfl (by show 2 * 0 + _ ≤ _; exact Nat.le_of_eq rfl) (hb hby dj35m48_14) (fun _ _ => ⟨rfl, e0, Nat.le_of_ble_eq_true rfl, Nat.le_of_ble_eq_true rfl⟩)
    dsimp only [Pt.U, Pt.locs, Pt.cells, Pt.slots] at X60 l60 y60 z60 st60 hQ60
    rw [l60, y60, z60] at X60
    obtain ⟨rfl, rfl, e60⟩ := hQ60
    have X60 : Stand p l e _ s m #[(.long p0)] below meth c T60 [] 0 0 := X60
    refine OGets.step st60 ?_
    refine OGets.step (fun _ => XS.iadd X60.here hx rfl (hb hby dj35m48_17) rfl) ?_
    refine OGets.step (fun _ => XS.goto X60.here hx rfl (pc0 := 18) (pc' := 25) rfl (hb hby dj35m48_18) (by decide) (by decide)) ?_
    refine OGets.retI X60 hx hlk Bd.returns (hb hby dj35m48_25) (Nat.le_of_ble_eq_true rfl) (Nat.le_of_ble_eq_true rfl) ?_
    exact ⟨congrArg (fun z => some (Value.int z)) hv59.symm, rfl, e60⟩
  · refine OGets.step (fun _ => XS.ifYes X0.here hx rfl (pc0 := 7) (pc' := 21) rfl (hb hby dj35m48_7) rfl ((if0 _ _).trans (feq hc7_58).2) (by decide) (by decide)) ?_
    have hv61 := hv0.trans (if_neg hc7_58)
    show OGets p e below _ (s₁.setTop (mkF m 21 #[.val (.long p0), .second, .val (.int (((p0.toUInt64 >>> ((32 : Int32) &&& 0x3f).toInt64.toUInt64).toInt64).toInt32))] []))
    refine OGets.step (fun _ => XS.iloadN X0.here hx rfl (hb hby dj35m48_21) rfl) ?_
    obtain ⟨_, _, ⟨T62, L62, k62, n62⟩, -, X62, ⟨Lc62, hQ62, l62, y62, z62⟩, st62⟩ := Jvm.LawKit.callS X0 hx (y := (⟨"java/lang/Integer", "numberOfLeadingZeros", "(I)I"⟩ : MethodName)) hown (mvT hZ (hw _ (List.mem_of_getElem? (i := 169) rfl))) (mvT hZ (hw _ (List.mem_of_getElem? (i := 170) rfl))) (mvT hZ (hw _ (List.mem_of_getElem? (i := 171) rfl))) (mvT hZ (hw _ (List.mem_of_getElem? (i := 172) rfl))) (by decide) (backOf (W := 0) (rm_ni l Z a0 hw [] (((p0.toUInt64 >>> ((32 : Int32) &&& 0x3f).toInt64.toUInt64).toInt64).toInt32) h0 n0  Z0 ) hZ (hw _ (List.mem_of_getElem? (i := 172) rfl)) (hw _ (List.mem_of_getElem? (i := 171) rfl)) (by decide) (by decide)) (g := (mkF m 22 #[.val (.long p0), .second, .val (.int (((p0.toUInt64 >>> ((32 : Int32) &&& 0x3f).toInt64.toUInt64).toInt64).toInt32))] [(.int (((p0.toUInt64 >>> ((32 : Int32) &&& 0x3f).toInt64.toUInt64).toInt64).toInt32))])) rfl (by rw [hml]; rfl) (argsL := [(.int (((p0.toUInt64 >>> ((32 : Int32) &&& 0x3f).toInt64.toUInt64).toInt64).toInt32))]) (rest := []) (lenOf pd_3 rfl) rfl (by show 2 * 0 + _ ≤ _; exact Nat.le_of_eq rfl) (hb hby dj35m48_22) (fun _ _ => ⟨rfl, e0, Nat.le_of_ble_eq_true rfl, Nat.le_of_ble_eq_true rfl⟩)
    dsimp only [Pt.U, Pt.locs, Pt.cells, Pt.slots] at X62 l62 y62 z62 st62 hQ62
    rw [l62, y62, z62] at X62
    obtain ⟨rfl, rfl, e62⟩ := hQ62
    have X62 : Stand p l e _ s m #[(.long p0)] below meth c T62 [] 0 0 := X62
    refine OGets.step st62 ?_
    refine OGets.retI X62 hx hlk Bd.returns (hb hby dj35m48_25) (Nat.le_of_ble_eq_true rfl) (Nat.le_of_ble_eq_true rfl) ?_
    exact ⟨congrArg (fun z => some (Value.int z)) hv61.symm, rfl, e62⟩
def f_ex (p0 : Int32) (p1 : Int32) (p2 : Int32) (p3 : Int32) (p4 : Int32) (p5 : Int32) (p6 : Int32) (p7 : Int32) (p8 : Int32) : Int32 := (if p0 = (p1 + p2) then p5 else (if p0 = (p1 + p3) then p6 else (if p0 = (p1 + p4) then p7 else p8)))
theorem dm4_0 : decode method_4_code 0 = .ok (.iload_n 0, 1) := by decide +kernel
theorem dm4_1 : decode method_4_code 1 = .ok (.iload_n 1, 1) := by decide +kernel
theorem dm4_2 : decode method_4_code 2 = .ok (.iload_n 2, 1) := by decide +kernel
theorem dm4_3 : decode method_4_code 3 = .ok (.iadd, 1) := by decide +kernel
theorem dm4_4 : decode method_4_code 4 = .ok (.if_icmp .ne 6, 3) := by decide +kernel
theorem dm4_7 : decode method_4_code 7 = .ok (.iload 5, 2) := by decide +kernel
theorem dm4_9 : decode method_4_code 9 = .ok (.ireturn, 1) := by decide +kernel
theorem dm4_10 : decode method_4_code 10 = .ok (.iload_n 0, 1) := by decide +kernel
theorem dm4_11 : decode method_4_code 11 = .ok (.iload_n 1, 1) := by decide +kernel
theorem dm4_12 : decode method_4_code 12 = .ok (.iload_n 3, 1) := by decide +kernel
theorem dm4_13 : decode method_4_code 13 = .ok (.iadd, 1) := by decide +kernel
theorem dm4_14 : decode method_4_code 14 = .ok (.if_icmp .ne 6, 3) := by decide +kernel
theorem dm4_17 : decode method_4_code 17 = .ok (.iload 6, 2) := by decide +kernel
theorem dm4_19 : decode method_4_code 19 = .ok (.ireturn, 1) := by decide +kernel
theorem dm4_20 : decode method_4_code 20 = .ok (.iload_n 0, 1) := by decide +kernel
theorem dm4_21 : decode method_4_code 21 = .ok (.iload_n 1, 1) := by decide +kernel
theorem dm4_22 : decode method_4_code 22 = .ok (.iload 4, 2) := by decide +kernel
theorem dm4_24 : decode method_4_code 24 = .ok (.iadd, 1) := by decide +kernel
theorem dm4_25 : decode method_4_code 25 = .ok (.if_icmp .ne 6, 3) := by decide +kernel
theorem dm4_28 : decode method_4_code 28 = .ok (.iload 7, 2) := by decide +kernel
theorem dm4_30 : decode method_4_code 30 = .ok (.ireturn, 1) := by decide +kernel
theorem dm4_31 : decode method_4_code 31 = .ok (.iload 8, 2) := by decide +kernel
theorem dm4_33 : decode method_4_code 33 = .ok (.ireturn, 1) := by decide +kernel
theorem ef_ex (m : MethodId) (x0 : Int32) (x1 : Int32) (x2 : Int32) (x3 : Int32) (x4 : Int32) (x5 : Int32) (x6 : Int32) (x7 : Int32) (x8 : Int32) : entryFrame m #[(.int x0), (.int x1), (.int x2), (.int x3), (.int x4), (.int x5), (.int x6), (.int x7), (.int x8)] 9 = mkF m 0 #[.val (.int x0), .val (.int x1), .val (.int x2), .val (.int x3), .val (.int x4), .val (.int x5), .val (.int x6), .val (.int x7), .val (.int x8)] [] := by first | (simp [entryFrame, mkF, argsToLocals, Value.category]; done) | rfl
def Q_ex (Z : State) (p0 : Int32) (p1 : Int32) (p2 : Int32) (p3 : Int32) (p4 : Int32) (p5 : Int32) (p6 : Int32) (p7 : Int32) (p8 : Int32) (h0 : Heap) (n0 : Nat) (v : Option Value) (h : Heap) (L : List Loc) : Prop := v = some (.int (f_ex p0 p1 p2 p3 p4 p5 p6 p7 p8)) ∧ L = [] ∧ h = h0
set_option maxRecDepth 65536 in
set_option maxHeartbeats 40000000 in
theorem rm_ex (l : Launch) (Z : State) (a0 : Array Value) (hw : ∀ d ∈ tables_1, d.before a0 Z = true) (ws : List Jvm.Cond) (p0 : Int32) (p1 : Int32) (p2 : Int32) (p3 : Int32) (p4 : Int32) (p5 : Int32) (p6 : Int32) (p7 : Int32) (p8 : Int32) (h0 : Heap) (n0 : Nat) (Z0 : n0 ≤ h0.size) :
    MetFree l (⟨"com/example/inya/inya/StateLayoutUnpackPinLaw", "exp", "(IIIIIIIII)I"⟩ : MethodName) (head1 (Jvm.Cond.code (⟨"com/example/inya/inya/StateLayoutUnpackPinLaw", "exp", "(IIIIIIIII)I"⟩ : MethodName) method_4_code 9 (some .int) :: ws) ({ frames := 0, cells := 0, slots := 0, locals := 0 } : Room)) (fun a_ U => a_ = #[(.int p0), (.int p1), (.int p2), (.int p3), (.int p4), (.int p5), (.int p6), (.int p7), (.int p8)] ∧ Z.Warmed39 U.vm ∧ U.heap = h0) (fun _ _ _ _ _ => True) (fun _ U o U' => ∃ v L, o = .returned v ∧ Q_ex Z p0 p1 p2 p3 p4 p5 p6 p7 p8 h0 n0 v U'.heap L ∧ FrameEnd U o U' L ({ frames := 0, cells := 0, slots := 0, locals := 0 } : Room).cells ({ frames := 0, cells := 0, slots := 0, locals := 0 } : Room).slots) := by
  refine MetFree.of_bodySF (plainFor_of_name pn_0) hisR ?_
  intro p e s m args below meth c s₁ Bd hml0 hP hK
  obtain ⟨rfl, hZ, hh⟩ := hP
  have hx := Bd.exec
  have hby := Bd.bytes
  have hlk : meth.locks = false := Bd.notSynchronized
  have hml : c.maxLocals = 9 := hml0
  have hown : s.vm.findClass "com/example/inya/inya/StateLayoutUnpackPinLaw" = some m.cls := findClass_of_methodNamed Bd.named
  have hnm := (name_of_methodNamed Bd.named Bd.method).1
  have X0 : Stand p l e ({ frames := 0, cells := 0, slots := 0, locals := 0 } : Room) s m #[(.int p0), (.int p1), (.int p2), (.int p3), (.int p4), (.int p5), (.int p6), (.int p7), (.int p8)] below meth c s₁ [] 0 0 := Stand.of_body Bd
  have e0 : s₁.heap = h0 := by rw [← hh, Bd.state]; rfl
  have N0 := Fr.nil n0
  have hv0 : f_ex p0 p1 p2 p3 p4 p5 p6 p7 p8 = (if p0 = (p1 + p2) then p5 else (if p0 = (p1 + p3) then p6 else (if p0 = (p1 + p4) then p7 else p8))) := rfl
  show OGets p e below (OLeaves s (Q_ex Z p0 p1 p2 p3 p4 p5 p6 p7 p8 h0 n0 ) ({ frames := 0, cells := 0, slots := 0, locals := 0 } : Room).cells ({ frames := 0, cells := 0, slots := 0, locals := 0 } : Room).slots) _
  refine OGets.enter (ef_ex m p0 p1 p2 p3 p4 p5 p6 p7 p8) ?_
  show OGets p e below _ (s₁.setTop (mkF m 0 #[.val (.int p0), .val (.int p1), .val (.int p2), .val (.int p3), .val (.int p4), .val (.int p5), .val (.int p6), .val (.int p7), .val (.int p8)] []))
  refine OGets.step (fun _ => XS.iloadN X0.here hx rfl (hb hby dm4_0) rfl) ?_
  refine OGets.step (fun _ => XS.iloadN X0.here hx rfl (hb hby dm4_1) rfl) ?_
  refine OGets.step (fun _ => XS.iloadN X0.here hx rfl (hb hby dm4_2) rfl) ?_
  refine OGets.step (fun _ => XS.iadd X0.here hx rfl (hb hby dm4_3) rfl) ?_
  by_cases hc4_63 : p0 = (p1 + p2)
  · refine OGets.step (fun _ => XS.icmpNo X0.here hx rfl (hb hby dm4_4) rfl (teq hc4_63).2) ?_
    have hv64 := hv0.trans (if_pos hc4_63)
    show OGets p e below _ (s₁.setTop (mkF m 7 #[.val (.int p0), .val (.int p1), .val (.int p2), .val (.int p3), .val (.int p4), .val (.int p5), .val (.int p6), .val (.int p7), .val (.int p8)] []))
    refine OGets.step (fun _ => XS.iload X0.here hx rfl (hb hby dm4_7) rfl) ?_
    refine OGets.retI X0 hx hlk Bd.returns (hb hby dm4_9) (Nat.le_of_ble_eq_true rfl) (Nat.le_of_ble_eq_true rfl) ?_
    exact ⟨congrArg (fun z => some (Value.int z)) hv64.symm, rfl, e0⟩
  · refine OGets.step (fun _ => XS.icmpYes X0.here hx rfl (pc0 := 4) (pc' := 10) rfl (hb hby dm4_4) rfl (feq hc4_63).2 (by decide) (by decide)) ?_
    have hv65 := hv0.trans (if_neg hc4_63)
    show OGets p e below _ (s₁.setTop (mkF m 10 #[.val (.int p0), .val (.int p1), .val (.int p2), .val (.int p3), .val (.int p4), .val (.int p5), .val (.int p6), .val (.int p7), .val (.int p8)] []))
    refine OGets.step (fun _ => XS.iloadN X0.here hx rfl (hb hby dm4_10) rfl) ?_
    refine OGets.step (fun _ => XS.iloadN X0.here hx rfl (hb hby dm4_11) rfl) ?_
    refine OGets.step (fun _ => XS.iloadN X0.here hx rfl (hb hby dm4_12) rfl) ?_
    refine OGets.step (fun _ => XS.iadd X0.here hx rfl (hb hby dm4_13) rfl) ?_
    by_cases hc14_66 : p0 = (p1 + p3)
    · refine OGets.step (fun _ => XS.icmpNo X0.here hx rfl (hb hby dm4_14) rfl (teq hc14_66).2) ?_
      have hv67 := hv65.trans (if_pos hc14_66)
      show OGets p e below _ (s₁.setTop (mkF m 17 #[.val (.int p0), .val (.int p1), .val (.int p2), .val (.int p3), .val (.int p4), .val (.int p5), .val (.int p6), .val (.int p7), .val (.int p8)] []))
      refine OGets.step (fun _ => XS.iload X0.here hx rfl (hb hby dm4_17) rfl) ?_
      refine OGets.retI X0 hx hlk Bd.returns (hb hby dm4_19) (Nat.le_of_ble_eq_true rfl) (Nat.le_of_ble_eq_true rfl) ?_
      exact ⟨congrArg (fun z => some (Value.int z)) hv67.symm, rfl, e0⟩
    · refine OGets.step (fun _ => XS.icmpYes X0.here hx rfl (pc0 := 14) (pc' := 20) rfl (hb hby dm4_14) rfl (feq hc14_66).2 (by decide) (by decide)) ?_
      have hv68 := hv65.trans (if_neg hc14_66)
      show OGets p e below _ (s₁.setTop (mkF m 20 #[.val (.int p0), .val (.int p1), .val (.int p2), .val (.int p3), .val (.int p4), .val (.int p5), .val (.int p6), .val (.int p7), .val (.int p8)] []))
      refine OGets.step (fun _ => XS.iloadN X0.here hx rfl (hb hby dm4_20) rfl) ?_
      refine OGets.step (fun _ => XS.iloadN X0.here hx rfl (hb hby dm4_21) rfl) ?_
      refine OGets.step (fun _ => XS.iload X0.here hx rfl (hb hby dm4_22) rfl) ?_
      refine OGets.step (fun _ => XS.iadd X0.here hx rfl (hb hby dm4_24) rfl) ?_
      by_cases hc25_69 : p0 = (p1 + p4)
      · refine OGets.step (fun _ => XS.icmpNo X0.here hx rfl (hb hby dm4_25) rfl (teq hc25_69).2) ?_
        have hv70 := hv68.trans (if_pos hc25_69)
        show OGets p e below _ (s₁.setTop (mkF m 28 #[.val (.int p0), .val (.int p1), .val (.int p2), .val (.int p3), .val (.int p4), .val (.int p5), .val (.int p6), .val (.int p7), .val (.int p8)] []))
        refine OGets.step (fun _ => XS.iload X0.here hx rfl (hb hby dm4_28) rfl) ?_
        refine OGets.retI X0 hx hlk Bd.returns (hb hby dm4_30) (Nat.le_of_ble_eq_true rfl) (Nat.le_of_ble_eq_true rfl) ?_
        exact ⟨congrArg (fun z => some (Value.int z)) hv70.symm, rfl, e0⟩
      · refine OGets.step (fun _ => XS.icmpYes X0.here hx rfl (pc0 := 25) (pc' := 31) rfl (hb hby dm4_25) rfl (feq hc25_69).2 (by decide) (by decide)) ?_
        have hv71 := hv68.trans (if_neg hc25_69)
        show OGets p e below _ (s₁.setTop (mkF m 31 #[.val (.int p0), .val (.int p1), .val (.int p2), .val (.int p3), .val (.int p4), .val (.int p5), .val (.int p6), .val (.int p7), .val (.int p8)] []))
        refine OGets.step (fun _ => XS.iload X0.here hx rfl (hb hby dm4_31) rfl) ?_
        refine OGets.retI X0 hx hlk Bd.returns (hb hby dm4_33) (Nat.le_of_ble_eq_true rfl) (Nat.le_of_ble_eq_true rfl) ?_
        exact ⟨congrArg (fun z => some (Value.int z)) hv71.symm, rfl, e0⟩
theorem own_sz {lo hi : Int32} (h : ¬ hi < lo) : ¬ (((hi.toInt64) - (lo.toInt64)) + (1 : Int64)) = 0 := by
  rw [Int32.lt_iff_toInt_lt] at h
  rw [← Int64.toInt_inj]
  have a1 := c_ladd ((hi.toInt64) - (lo.toInt64)) 1
  have a2 := c_lsub hi.toInt64 lo.toInt64
  rw [c_i2l, c_i2l] at a2
  have e1 : (1 : Int64).toInt = 1 := rfl
  have e0 : (0 : Int64).toInt = 0 := rfl
  have b1 := hi.toInt_lt; have b2 := hi.le_toInt; have b3 := lo.toInt_lt; have b4 := lo.le_toInt
  have b5 := ((hi.toInt64) - (lo.toInt64)).toInt_lt; have b6 := ((hi.toInt64) - (lo.toInt64)).le_toInt
  omega
def f_pk (p0 : Int32) (p1 : Int32) (p2 : Int64) : Int32 := (((p0.toInt64) + (p2 - (p2 / (((p1.toInt64) - (p0.toInt64)) + (1 : Int64))) * (((p1.toInt64) - (p0.toInt64)) + (1 : Int64)))).toInt32)
theorem dm3_0 : decode method_3_code 0 = .ok (.iload_n 1, 1) := by decide +kernel
theorem dm3_1 : decode method_3_code 1 = .ok (.i2l, 1) := by decide +kernel
theorem dm3_2 : decode method_3_code 2 = .ok (.iload_n 0, 1) := by decide +kernel
theorem dm3_3 : decode method_3_code 3 = .ok (.i2l, 1) := by decide +kernel
theorem dm3_4 : decode method_3_code 4 = .ok (.lsub, 1) := by decide +kernel
theorem dm3_5 : decode method_3_code 5 = .ok (.lconst 1, 1) := by decide +kernel
theorem dm3_6 : decode method_3_code 6 = .ok (.ladd, 1) := by decide +kernel
theorem dm3_7 : decode method_3_code 7 = .ok (.lstore 4, 2) := by decide +kernel
theorem dm3_9 : decode method_3_code 9 = .ok (.iload_n 0, 1) := by decide +kernel
theorem dm3_10 : decode method_3_code 10 = .ok (.i2l, 1) := by decide +kernel
theorem dm3_11 : decode method_3_code 11 = .ok (.lload_n 2, 1) := by decide +kernel
theorem dm3_12 : decode method_3_code 12 = .ok (.lload 4, 2) := by decide +kernel
theorem dm3_14 : decode method_3_code 14 = .ok (.lrem, 1) := by decide +kernel
theorem dm3_15 : decode method_3_code 15 = .ok (.ladd, 1) := by decide +kernel
theorem dm3_16 : decode method_3_code 16 = .ok (.l2i, 1) := by decide +kernel
theorem dm3_17 : decode method_3_code 17 = .ok (.ireturn, 1) := by decide +kernel
theorem ef_pk (m : MethodId) (x0 : Int32) (x1 : Int32) (x2 : Int64) : entryFrame m #[(.int x0), (.int x1), (.long x2)] 6 = mkF m 0 #[.val (.int x0), .val (.int x1), .val (.long x2), .second, .unset, .unset] [] := by first | (simp [entryFrame, mkF, argsToLocals, Value.category]; done) | rfl
def Q_pk (Z : State) (p0 : Int32) (p1 : Int32) (p2 : Int64) (h0 : Heap) (n0 : Nat) (v : Option Value) (h : Heap) (L : List Loc) : Prop := v = some (.int (f_pk p0 p1 p2)) ∧ L = [] ∧ h = h0
set_option maxRecDepth 65536 in
set_option maxHeartbeats 40000000 in
theorem rm_pk (l : Launch) (Z : State) (a0 : Array Value) (hw : ∀ d ∈ tables_1, d.before a0 Z = true) (ws : List Jvm.Cond) (p0 : Int32) (p1 : Int32) (p2 : Int64) (h0 : Heap) (n0 : Nat) (Z0 : n0 ≤ h0.size) (hle : ¬ p1 < p0) :
    MetFree l (⟨"com/example/inya/inya/StateLayoutUnpackPinLaw", "pick", "(IIJ)I"⟩ : MethodName) (head1 (Jvm.Cond.code (⟨"com/example/inya/inya/StateLayoutUnpackPinLaw", "pick", "(IIJ)I"⟩ : MethodName) method_3_code 6 (some .int) :: ws) ({ frames := 0, cells := 0, slots := 0, locals := 0 } : Room)) (fun a_ U => a_ = #[(.int p0), (.int p1), (.long p2)] ∧ Z.Warmed39 U.vm ∧ U.heap = h0) (fun _ _ _ _ _ => True) (fun _ U o U' => ∃ v L, o = .returned v ∧ Q_pk Z p0 p1 p2 h0 n0 v U'.heap L ∧ FrameEnd U o U' L ({ frames := 0, cells := 0, slots := 0, locals := 0 } : Room).cells ({ frames := 0, cells := 0, slots := 0, locals := 0 } : Room).slots) := by
  refine MetFree.of_bodySF (plainFor_of_name pn_0) hisR ?_
  intro p e s m args below meth c s₁ Bd hml0 hP hK
  obtain ⟨rfl, hZ, hh⟩ := hP
  have hx := Bd.exec
  have hby := Bd.bytes
  have hlk : meth.locks = false := Bd.notSynchronized
  have hml : c.maxLocals = 6 := hml0
  have hown : s.vm.findClass "com/example/inya/inya/StateLayoutUnpackPinLaw" = some m.cls := findClass_of_methodNamed Bd.named
  have hnm := (name_of_methodNamed Bd.named Bd.method).1
  have X0 : Stand p l e ({ frames := 0, cells := 0, slots := 0, locals := 0 } : Room) s m #[(.int p0), (.int p1), (.long p2)] below meth c s₁ [] 0 0 := Stand.of_body Bd
  have e0 : s₁.heap = h0 := by rw [← hh, Bd.state]; rfl
  have N0 := Fr.nil n0
  have hv0 : f_pk p0 p1 p2 = (((p0.toInt64) + (p2 - (p2 / (((p1.toInt64) - (p0.toInt64)) + (1 : Int64))) * (((p1.toInt64) - (p0.toInt64)) + (1 : Int64)))).toInt32) := rfl
  show OGets p e below (OLeaves s (Q_pk Z p0 p1 p2 h0 n0 ) ({ frames := 0, cells := 0, slots := 0, locals := 0 } : Room).cells ({ frames := 0, cells := 0, slots := 0, locals := 0 } : Room).slots) _
  refine OGets.enter (ef_pk m p0 p1 p2) ?_
  show OGets p e below _ (s₁.setTop (mkF m 0 #[.val (.int p0), .val (.int p1), .val (.long p2), .second, .unset, .unset] []))
  refine OGets.step (fun _ => XS.iloadN X0.here hx rfl (hb hby dm3_0) rfl) ?_
  refine OGets.step (fun _ => XS.i2l X0.here hx rfl (hb hby dm3_1) rfl) ?_
  refine OGets.step (fun _ => XS.iloadN X0.here hx rfl (hb hby dm3_2) rfl) ?_
  refine OGets.step (fun _ => XS.i2l X0.here hx rfl (hb hby dm3_3) rfl) ?_
  refine OGets.step (fun _ => XS.lsub X0.here hx rfl (hb hby dm3_4) rfl) ?_
  refine OGets.step (fun _ => XS.lconst X0.here hx rfl (hb hby dm3_5)) ?_
  show OGets p e below _ (s₁.setTop (mkF m 6 #[.val (.int p0), .val (.int p1), .val (.long p2), .second, .unset, .unset] [(.long (1 : Int64)), (.long ((p1.toInt64) - (p0.toInt64)))]))
  refine OGets.step (fun _ => XS.ladd X0.here hx rfl (hb hby dm3_6) rfl) ?_
  refine OGets.step (fun _ => XS.lstore X0.here hx rfl (hb hby dm3_7) rfl (l' := #[.val (.int p0), .val (.int p1), .val (.long p2), .second, .val (.long (((p1.toInt64) - (p0.toInt64)) + (1 : Int64))), .second]) rfl) ?_
  refine OGets.step (fun _ => XS.iloadN X0.here hx rfl (hb hby dm3_9) rfl) ?_
  refine OGets.step (fun _ => XS.i2l X0.here hx rfl (hb hby dm3_10) rfl) ?_
  refine OGets.step (fun _ => XS.lloadN X0.here hx rfl (hb hby dm3_11) rfl) ?_
  refine OGets.step (fun _ => XS.lload X0.here hx rfl (hb hby dm3_12) rfl) ?_
  show OGets p e below _ (s₁.setTop (mkF m 14 #[.val (.int p0), .val (.int p1), .val (.long p2), .second, .val (.long (((p1.toInt64) - (p0.toInt64)) + (1 : Int64))), .second] [(.long (((p1.toInt64) - (p0.toInt64)) + (1 : Int64))), (.long p2), (.long (p0.toInt64))]))
  refine OGets.step (fun _ => XS.lrem X0.here hx rfl (hb hby dm3_14) rfl (own_sz hle)) ?_
  refine OGets.step (fun _ => XS.ladd X0.here hx rfl (hb hby dm3_15) rfl) ?_
  refine OGets.step (fun _ => XS.l2i X0.here hx rfl (hb hby dm3_16) rfl) ?_
  refine OGets.retI X0 hx hlk Bd.returns (hb hby dm3_17) (Nat.le_of_ble_eq_true rfl) (Nat.le_of_ble_eq_true rfl) ?_
  exact ⟨congrArg (fun z => some (Value.int z)) hv0.symm, rfl, e0⟩
def shl (x : Int64) (q : Int32) : Int64 := x <<< (q &&& 0x3f).toInt64
def ush (x : Int64) (q : Int32) : Int64 := (x.toUInt64 >>> (q &&& 0x3f).toInt64.toUInt64).toInt64
def msk (q : Int32) : Int64 := ((1 : Int64) <<< (q &&& 0x3f).toInt64) - (1 : Int64)
def enc (v lo : Int32) : Int64 := v.toInt64 - lo.toInt64
def unp (lo : Int32) (w : Int64) (q : Int32) (m : Int64) : Int32 := (lo.toInt64 + ((w.toUInt64 >>> (q &&& 0x3f).toInt64.toUInt64).toInt64 &&& m)).toInt32
abbrev nt (x : Int64) : Nat := x.toBitVec.toNat
theorem own_ntq (q : Int32) (k : Nat) (hq : q.toInt = k) (hk : k < 64) : q.toBitVec.toNat % 64 = k := by
  have h := q.toBitVec.isLt
  have h2 : q.toBitVec.toInt = k := hq
  rw [BitVec.toInt_eq_toNat_cond] at h2
  split at h2 <;> omega
theorem own_shl (x : Int64) (q : Int32) (k : Nat) (hq : q.toInt = k) (hk : k < 64) : nt (shl x q) = (nt x <<< k) % 2 ^ 64 := by
  have hk' := own_ntq q k hq hk
  show (x.toBitVec <<< ((q &&& 0x3f).toInt64.toBitVec.smod 64)).toNat = _
  rw [BitVec.shiftLeft_eq', (sm64 q k hk').1, smod64 k hk, BitVec.toNat_shiftLeft]
theorem own_ush (x : Int64) (q : Int32) (k : Nat) (hq : q.toInt = k) (hk : k < 64) : nt (ush x q) = nt x >>> k := by
  have hk' := own_ntq q k hq hk
  show (x.toBitVec >>> ((q &&& 0x3f).toInt64.toBitVec % 64)).toNat = _
  rw [BitVec.ushiftRight_eq', BitVec.toNat_ushiftRight, BitVec.toNat_umod, (sm64 q k hk').1, BitVec.toNat_ofNat]
  congr 1; show k % 2 ^ 64 % 64 = k; omega
theorem own_or (a b : Int64) : nt (a ||| b) = nt a ||| nt b := by show (a.toBitVec ||| b.toBitVec).toNat = _; rw [BitVec.toNat_or]
theorem own_and (a b : Int64) : nt (a &&& b) = nt a &&& nt b := by show (a.toBitVec &&& b.toBitVec).toNat = _; rw [BitVec.toNat_and]
theorem own_nt_inj {a b : Int64} (h : nt a = nt b) : a = b := Int64.toBitVec_inj.mp (BitVec.eq_of_toNat_eq h)
theorem own_msk (q : Int32) (k : Nat) (hq : q.toInt = k) (hk : k < 64) : nt (msk q) = 2 ^ k - 1 := by
  have h := own_shl 1 q k hq hk
  have h1 : nt 1 <<< k = 2 ^ k := by rw [show nt 1 = 1 from by decide, Nat.shiftLeft_eq, Nat.one_mul]
  have h2 : 2 ^ k < 2 ^ 64 := Nat.pow_lt_pow_right (by decide) hk
  have h3 : 0 < 2 ^ k := Nat.two_pow_pos k
  rw [h1, Nat.mod_eq_of_lt h2] at h
  show ((shl 1 q).toBitVec - (1 : Int64).toBitVec).toNat = _
  rw [BitVec.toNat_sub, show (1 : Int64).toBitVec.toNat = 1 from by decide]
  have h4 : (shl 1 q).toBitVec.toNat = 2 ^ k := h
  rw [h4]
  generalize 2 ^ k = P at *
  omega
theorem own_tf {E b i : Nat} (h : E < 2 ^ b) (hi : b ≤ i) : E.testBit i = false := Nat.testBit_lt_two_pow (Nat.lt_of_lt_of_le h (Nat.pow_le_pow_right (by decide) hi))
theorem own_pk0 (E0 E1 E2 b0 b1 b2 : Nat) (h0 : E0 < 2 ^ b0) (h1 : E1 < 2 ^ b1) (h2 : E2 < 2 ^ b2) :
    (E0 ||| E1 <<< b0 ||| E2 <<< (b0 + b1)) % 2 ^ b0 = E0 ∧ ((E0 ||| E1 <<< b0 ||| E2 <<< (b0 + b1)) >>> b0) % 2 ^ b1 = E1 ∧ ((E0 ||| E1 <<< b0 ||| E2 <<< (b0 + b1)) >>> (b0 + b1)) % 2 ^ b2 = E2 := by
  refine ⟨Nat.eq_of_testBit_eq fun i => ?_, Nat.eq_of_testBit_eq fun i => ?_, Nat.eq_of_testBit_eq fun i => ?_⟩
  · simp only [Nat.testBit_mod_two_pow, Nat.testBit_or, Nat.testBit_shiftLeft]
    by_cases hi : i < b0
    · simp [hi, show ¬ b0 ≤ i by omega, show ¬ b0 + b1 ≤ i by omega]
    · simp [hi, own_tf h0 (show b0 ≤ i by omega)]
  · simp only [Nat.testBit_mod_two_pow, Nat.testBit_shiftRight, Nat.testBit_or, Nat.testBit_shiftLeft]
    by_cases hi : i < b1
    · simp [hi, show ¬ b1 ≤ i by omega, own_tf h0 (show b0 ≤ b0 + i by omega)]
    · simp [hi, own_tf h1 (show b1 ≤ i by omega)]
  · simp only [Nat.testBit_mod_two_pow, Nat.testBit_shiftRight, Nat.testBit_or, Nat.testBit_shiftLeft]
    by_cases hi : i < b2
    · simp [hi, own_tf h0 (show b0 ≤ b0 + b1 + i by omega), own_tf h1 (show b1 ≤ b0 + b1 + i - b0 by omega)]
    · simp [hi, own_tf h2 (show b2 ≤ i by omega)]
theorem own_noW {E b k : Nat} (h : E < 2 ^ b) (hb : k + b ≤ 64) : (E <<< k) % 2 ^ 64 = E <<< k := by
  apply Nat.mod_eq_of_lt
  rw [Nat.shiftLeft_eq]
  have h1 : E * 2 ^ k < 2 ^ b * 2 ^ k := Nat.mul_lt_mul_of_pos_right h (Nat.two_pow_pos k)
  rw [← Nat.pow_add] at h1
  exact Nat.lt_of_lt_of_le h1 (Nat.pow_le_pow_right (by decide) (by omega))
/-- one word, three fields -/
theorem own_one (e0 e1 e2 : Int64) (q1 q2 k0 k1 k2 : Int32) (b0 b1 b2 : Nat) (h0 : nt e0 < 2 ^ b0) (h1 : nt e1 < 2 ^ b1) (h2 : nt e2 < 2 ^ b2) (hb : b0 + b1 + b2 ≤ 64) (c0 : b0 ≤ 32) (c1 : b1 ≤ 32) (c2 : b2 ≤ 32)
    (hq1 : q1.toInt = b0) (hq2 : q2.toInt = (b0 + b1 : Nat)) (g0 : k0.toInt = b0) (g1 : k1.toInt = b1) (g2 : k2.toInt = b2) :
    (ush ((((0 : Int64) ||| shl e0 0) ||| shl e1 q1) ||| shl e2 q2) 0 &&& msk k0 = e0) ∧ (ush ((((0 : Int64) ||| shl e0 0) ||| shl e1 q1) ||| shl e2 q2) q1 &&& msk k1 = e1) ∧ (ush ((((0 : Int64) ||| shl e0 0) ||| shl e1 q1) ||| shl e2 q2) q2 &&& msk k2 = e2) := by
  have z0 : nt (shl e0 0) = nt e0 := by rw [own_shl e0 0 0 rfl (by decide), Nat.shiftLeft_zero, Nat.mod_eq_of_lt e0.toBitVec.isLt]
  have z1 : nt (shl e1 q1) = nt e1 <<< b0 := by rw [own_shl e1 q1 b0 hq1 (by omega), own_noW h1 (by omega)]
  have zz : nt (0 : Int64) = 0 := by decide
  by_cases hf : b0 + b1 < 64
  · have z2 : nt (shl e2 q2) = nt e2 <<< (b0 + b1) := by rw [own_shl e2 q2 (b0 + b1) hq2 hf, own_noW h2 (by omega)]
    have hN : nt ((((0 : Int64) ||| shl e0 0) ||| shl e1 q1) ||| shl e2 q2) = nt e0 ||| nt e1 <<< b0 ||| nt e2 <<< (b0 + b1) := by rw [own_or, own_or, own_or, z0, z1, z2, zz, Nat.zero_or]
    have P := own_pk0 (nt e0) (nt e1) (nt e2) b0 b1 b2 h0 h1 h2
    refine ⟨own_nt_inj ?_, own_nt_inj ?_, own_nt_inj ?_⟩
    · rw [own_and, own_ush _ 0 0 rfl (by decide), own_msk k0 b0 g0 (by omega), Nat.and_two_pow_sub_one_eq_mod, hN]; exact P.1
    · rw [own_and, own_ush _ q1 b0 hq1 (by omega), own_msk k1 b1 g1 (by omega), Nat.and_two_pow_sub_one_eq_mod, hN]; exact P.2.1
    · rw [own_and, own_ush _ q2 (b0 + b1) hq2 hf, own_msk k2 b2 g2 (by omega), Nat.and_two_pow_sub_one_eq_mod, hN]; exact P.2.2
  · have hb2 : b2 = 0 := by omega
    subst hb2
    have he : nt e2 = 0 := by simpa using h2
    have e20 : e2 = 0 := own_nt_inj (he.trans zz.symm)
    have hs : shl e2 q2 = 0 := by rw [e20]; exact own_nt_inj (by
      show ((0 : BitVec 64) <<< ((q2 &&& 0x3f).toInt64.toBitVec.smod 64)).toNat = 0
      simp)
    have hN : nt ((((0 : Int64) ||| shl e0 0) ||| shl e1 q1) ||| shl e2 q2) = nt e0 ||| nt e1 <<< b0 ||| 0 <<< (b0 + b1) := by rw [own_or, own_or, own_or, z0, z1, hs, zz, Nat.zero_or, Nat.zero_shiftLeft]
    have P := own_pk0 (nt e0) (nt e1) 0 b0 b1 0 h0 h1 (by decide)
    refine ⟨own_nt_inj ?_, own_nt_inj ?_, own_nt_inj ?_⟩
    · rw [own_and, own_ush _ 0 0 rfl (by decide), own_msk k0 b0 g0 (by omega), Nat.and_two_pow_sub_one_eq_mod, hN]; exact P.1
    · rw [own_and, own_ush _ q1 b0 hq1 (by omega), own_msk k1 b1 g1 (by omega), Nat.and_two_pow_sub_one_eq_mod, hN]; exact P.2.1
    · rw [own_and, own_msk k2 0 g2 (by omega), he]; simp
/-- two words -/
theorem own_two (e0 e1 e2 : Int64) (q1 k0 k1 k2 : Int32) (b0 b1 b2 : Nat) (h0 : nt e0 < 2 ^ b0) (h1 : nt e1 < 2 ^ b1) (h2 : nt e2 < 2 ^ b2) (c0 : b0 ≤ 32) (c1 : b1 ≤ 32) (c2 : b2 ≤ 32)
    (hq1 : q1.toInt = b0) (g0 : k0.toInt = b0) (g1 : k1.toInt = b1) (g2 : k2.toInt = b2) :
    (ush (((0 : Int64) ||| shl e0 0) ||| shl e1 q1) 0 &&& msk k0 = e0) ∧ (ush (((0 : Int64) ||| shl e0 0) ||| shl e1 q1) q1 &&& msk k1 = e1) ∧ (ush ((0 : Int64) ||| shl e2 0) 0 &&& msk k2 = e2) := by
  have z0 : nt (shl e0 0) = nt e0 := by rw [own_shl e0 0 0 rfl (by decide), Nat.shiftLeft_zero, Nat.mod_eq_of_lt e0.toBitVec.isLt]
  have y0 : nt (shl e2 0) = nt e2 := by rw [own_shl e2 0 0 rfl (by decide), Nat.shiftLeft_zero, Nat.mod_eq_of_lt e2.toBitVec.isLt]
  have z1 : nt (shl e1 q1) = nt e1 <<< b0 := by rw [own_shl e1 q1 b0 hq1 (by omega), own_noW h1 (by omega)]
  have zz : nt (0 : Int64) = 0 := by decide
  have hN : nt (((0 : Int64) ||| shl e0 0) ||| shl e1 q1) = nt e0 ||| nt e1 <<< b0 ||| 0 <<< (b0 + b1) := by rw [own_or, own_or, z0, z1, zz, Nat.zero_or, Nat.zero_shiftLeft, Nat.or_zero]
  have P := own_pk0 (nt e0) (nt e1) 0 b0 b1 0 h0 h1 (by decide)
  refine ⟨own_nt_inj ?_, own_nt_inj ?_, own_nt_inj ?_⟩
  · rw [own_and, own_ush _ 0 0 rfl (by decide), own_msk k0 b0 g0 (by omega), Nat.and_two_pow_sub_one_eq_mod, hN]; exact P.1
  · rw [own_and, own_ush _ q1 b0 hq1 (by omega), own_msk k1 b1 g1 (by omega), Nat.and_two_pow_sub_one_eq_mod, hN]; exact P.2.1
  · rw [own_and, own_ush _ 0 0 rfl (by decide), own_msk k2 b2 g2 (by omega), Nat.and_two_pow_sub_one_eq_mod, own_or, zz, Nat.zero_or, y0, Nat.shiftRight_zero]; exact Nat.mod_eq_of_lt h2
theorem own_back (lo v : Int32) (w : Int64) (q : Int32) (m : Int64) (h : ush w q &&& m = enc v lo) : unp lo w q m = v := by
  have h1 : unp lo w q m = (lo.toInt64 + enc v lo).toInt32 := by rw [← h]; rfl
  rw [h1, ← Int32.toInt_inj]
  have a1 := c_l2i (lo.toInt64 + enc v lo)
  have a2 := c_ladd lo.toInt64 (enc v lo)
  have a3 : ((enc v lo).toInt - (v.toInt64.toInt - lo.toInt64.toInt)) % 18446744073709551616 = 0 := c_lsub v.toInt64 lo.toInt64
  rw [c_i2l] at a2 a3
  rw [c_i2l] at a3
  have b1 := v.toInt_lt; have b2 := v.le_toInt
  have b3 := (lo.toInt64 + enc v lo).toInt32.toInt_lt; have b4 := (lo.toInt64 + enc v lo).toInt32.le_toInt
  omega
theorem own_ni (x : Int32) (hx : 0 < x.toInt) : ∃ b : Nat, b ≤ 32 ∧ (f_ni x).toInt = 32 - (b : Int) ∧ x.toInt < (2 ^ b : Nat) := by
  have t : f_ni x = (if (0 : Int32) < x then (if x < (65536 : Int32) then (if x < (256 : Int32) then (if x < (16 : Int32) then (if x < (4 : Int32) then ((31 : Int32) - ((x.toUInt32 >>> ((1 : Int32) &&& 31).toUInt32).toInt32)) else ((29 : Int32) - ((((x.toUInt32 >>> ((2 : Int32) &&& 31).toUInt32).toInt32).toUInt32 >>> ((1 : Int32) &&& 31).toUInt32).toInt32))) else (if ((x.toUInt32 >>> ((4 : Int32) &&& 31).toUInt32).toInt32) < (4 : Int32) then ((27 : Int32) - ((((x.toUInt32 >>> ((4 : Int32) &&& 31).toUInt32).toInt32).toUInt32 >>> ((1 : Int32) &&& 31).toUInt32).toInt32)) else ((25 : Int32) - ((((((x.toUInt32 >>> ((4 : Int32) &&& 31).toUInt32).toInt32).toUInt32 >>> ((2 : Int32) &&& 31).toUInt32).toInt32).toUInt32 >>> ((1 : Int32) &&& 31).toUInt32).toInt32)))) else (if ((x.toUInt32 >>> ((8 : Int32) &&& 31).toUInt32).toInt32) < (16 : Int32) then (if ((x.toUInt32 >>> ((8 : Int32) &&& 31).toUInt32).toInt32) < (4 : Int32) then ((23 : Int32) - ((((x.toUInt32 >>> ((8 : Int32) &&& 31).toUInt32).toInt32).toUInt32 >>> ((1 : Int32) &&& 31).toUInt32).toInt32)) else ((21 : Int32) - ((((((x.toUInt32 >>> ((8 : Int32) &&& 31).toUInt32).toInt32).toUInt32 >>> ((2 : Int32) &&& 31).toUInt32).toInt32).toUInt32 >>> ((1 : Int32) &&& 31).toUInt32).toInt32))) else (if ((((x.toUInt32 >>> ((8 : Int32) &&& 31).toUInt32).toInt32).toUInt32 >>> ((4 : Int32) &&& 31).toUInt32).toInt32) < (4 : Int32) then ((19 : Int32) - ((((((x.toUInt32 >>> ((8 : Int32) &&& 31).toUInt32).toInt32).toUInt32 >>> ((4 : Int32) &&& 31).toUInt32).toInt32).toUInt32 >>> ((1 : Int32) &&& 31).toUInt32).toInt32)) else ((17 : Int32) - ((((((((x.toUInt32 >>> ((8 : Int32) &&& 31).toUInt32).toInt32).toUInt32 >>> ((4 : Int32) &&& 31).toUInt32).toInt32).toUInt32 >>> ((2 : Int32) &&& 31).toUInt32).toInt32).toUInt32 >>> ((1 : Int32) &&& 31).toUInt32).toInt32))))) else (if ((x.toUInt32 >>> ((16 : Int32) &&& 31).toUInt32).toInt32) < (256 : Int32) then (if ((x.toUInt32 >>> ((16 : Int32) &&& 31).toUInt32).toInt32) < (16 : Int32) then (if ((x.toUInt32 >>> ((16 : Int32) &&& 31).toUInt32).toInt32) < (4 : Int32) then ((15 : Int32) - ((((x.toUInt32 >>> ((16 : Int32) &&& 31).toUInt32).toInt32).toUInt32 >>> ((1 : Int32) &&& 31).toUInt32).toInt32)) else ((13 : Int32) - ((((((x.toUInt32 >>> ((16 : Int32) &&& 31).toUInt32).toInt32).toUInt32 >>> ((2 : Int32) &&& 31).toUInt32).toInt32).toUInt32 >>> ((1 : Int32) &&& 31).toUInt32).toInt32))) else (if ((((x.toUInt32 >>> ((16 : Int32) &&& 31).toUInt32).toInt32).toUInt32 >>> ((4 : Int32) &&& 31).toUInt32).toInt32) < (4 : Int32) then ((11 : Int32) - ((((((x.toUInt32 >>> ((16 : Int32) &&& 31).toUInt32).toInt32).toUInt32 >>> ((4 : Int32) &&& 31).toUInt32).toInt32).toUInt32 >>> ((1 : Int32) &&& 31).toUInt32).toInt32)) else ((9 : Int32) - ((((((((x.toUInt32 >>> ((16 : Int32) &&& 31).toUInt32).toInt32).toUInt32 >>> ((4 : Int32) &&& 31).toUInt32).toInt32).toUInt32 >>> ((2 : Int32) &&& 31).toUInt32).toInt32).toUInt32 >>> ((1 : Int32) &&& 31).toUInt32).toInt32)))) else (if ((((x.toUInt32 >>> ((16 : Int32) &&& 31).toUInt32).toInt32).toUInt32 >>> ((8 : Int32) &&& 31).toUInt32).toInt32) < (16 : Int32) then (if ((((x.toUInt32 >>> ((16 : Int32) &&& 31).toUInt32).toInt32).toUInt32 >>> ((8 : Int32) &&& 31).toUInt32).toInt32) < (4 : Int32) then ((7 : Int32) - ((((((x.toUInt32 >>> ((16 : Int32) &&& 31).toUInt32).toInt32).toUInt32 >>> ((8 : Int32) &&& 31).toUInt32).toInt32).toUInt32 >>> ((1 : Int32) &&& 31).toUInt32).toInt32)) else ((5 : Int32) - ((((((((x.toUInt32 >>> ((16 : Int32) &&& 31).toUInt32).toInt32).toUInt32 >>> ((8 : Int32) &&& 31).toUInt32).toInt32).toUInt32 >>> ((2 : Int32) &&& 31).toUInt32).toInt32).toUInt32 >>> ((1 : Int32) &&& 31).toUInt32).toInt32))) else (if ((((((x.toUInt32 >>> ((16 : Int32) &&& 31).toUInt32).toInt32).toUInt32 >>> ((8 : Int32) &&& 31).toUInt32).toInt32).toUInt32 >>> ((4 : Int32) &&& 31).toUInt32).toInt32) < (4 : Int32) then ((3 : Int32) - ((((((((x.toUInt32 >>> ((16 : Int32) &&& 31).toUInt32).toInt32).toUInt32 >>> ((8 : Int32) &&& 31).toUInt32).toInt32).toUInt32 >>> ((4 : Int32) &&& 31).toUInt32).toInt32).toUInt32 >>> ((1 : Int32) &&& 31).toUInt32).toInt32)) else ((1 : Int32) - ((((((((((x.toUInt32 >>> ((16 : Int32) &&& 31).toUInt32).toInt32).toUInt32 >>> ((8 : Int32) &&& 31).toUInt32).toInt32).toUInt32 >>> ((4 : Int32) &&& 31).toUInt32).toInt32).toUInt32 >>> ((2 : Int32) &&& 31).toUInt32).toInt32).toUInt32 >>> ((1 : Int32) &&& 31).toUInt32).toInt32)))))) else (if x = (0 : Int32) then (32 : Int32) else (0 : Int32))) := rfl
  have hp : (0 : Int32) < x := by rw [Int32.lt_iff_toInt_lt]; exact hx
  have t0 := t.trans (if_pos hp)
  clear t
  have ex := x.toInt_lt
  by_cases h1 : x < (65536 : Int32)
  · have t1 := t0.trans (if_pos h1)
    clear t0
    rw [Int32.lt_iff_toInt_lt, show (65536 : Int32).toInt = 65536 from rfl] at h1
    by_cases h2 : x < (256 : Int32)
    · have t2 := t1.trans (if_pos h2)
      clear t1
      rw [Int32.lt_iff_toInt_lt, show (256 : Int32).toInt = 256 from rfl] at h2
      by_cases h3 : x < (16 : Int32)
      · have t3 := t2.trans (if_pos h3)
        clear t2
        rw [Int32.lt_iff_toInt_lt, show (16 : Int32).toInt = 16 from rfl] at h3
        by_cases h4 : x < (4 : Int32)
        · have t4 := t3.trans (if_pos h4)
          clear t3
          rw [Int32.lt_iff_toInt_lt, show (4 : Int32).toInt = 4 from rfl] at h4
          have s := c_iushr x 1 1 (by decide) (by decide)
          have r := c_isub (31 : Int32) ((x.toUInt32 >>> ((1 : Int32) &&& 31).toUInt32).toInt32)
          rw [← t4] at r
          have g1 := (f_ni x).toInt_lt; have g2 := (f_ni x).le_toInt
          have e1 : ((31 : Int32)).toInt = 31 := rfl
          clear t4
          generalize (f_ni x).toInt = F at *
          generalize ((x.toUInt32 >>> ((1 : Int32) &&& 31).toUInt32).toInt32).toInt = G at *
          skip
          by_cases hQ : x.toInt = 1
          · exact ⟨1, by decide, by omega, by omega⟩
          · exact ⟨2, by decide, by omega, by omega⟩
        · have t4 := t3.trans (if_neg h4)
          clear t3
          rw [Int32.lt_iff_toInt_lt, show (4 : Int32).toInt = 4 from rfl] at h4
          have s2 := c_iushr x 2 2 (by decide) (by decide)
          have s := c_iushr ((x.toUInt32 >>> ((2 : Int32) &&& 31).toUInt32).toInt32) 1 1 (by decide) (by decide)
          have r := c_isub (29 : Int32) ((((x.toUInt32 >>> ((2 : Int32) &&& 31).toUInt32).toInt32).toUInt32 >>> ((1 : Int32) &&& 31).toUInt32).toInt32)
          rw [← t4] at r
          have g1 := (f_ni x).toInt_lt; have g2 := (f_ni x).le_toInt
          have e1 : ((29 : Int32)).toInt = 29 := rfl
          clear t4
          generalize (f_ni x).toInt = F at *
          generalize ((((x.toUInt32 >>> ((2 : Int32) &&& 31).toUInt32).toInt32).toUInt32 >>> ((1 : Int32) &&& 31).toUInt32).toInt32).toInt = G at *
          generalize ((x.toUInt32 >>> ((2 : Int32) &&& 31).toUInt32).toInt32).toInt = Q at *
          by_cases hQ : Q = 1
          · exact ⟨3, by decide, by omega, by omega⟩
          · exact ⟨4, by decide, by omega, by omega⟩
      · have t3 := t2.trans (if_neg h3)
        clear t2
        rw [Int32.lt_iff_toInt_lt, show (16 : Int32).toInt = 16 from rfl] at h3
        have s4 := c_iushr x 4 4 (by decide) (by decide)
        by_cases h7 : ((x.toUInt32 >>> ((4 : Int32) &&& 31).toUInt32).toInt32) < (4 : Int32)
        · have t7 := t3.trans (if_pos h7)
          clear t3
          rw [Int32.lt_iff_toInt_lt, show (4 : Int32).toInt = 4 from rfl] at h7
          have s := c_iushr ((x.toUInt32 >>> ((4 : Int32) &&& 31).toUInt32).toInt32) 1 1 (by decide) (by decide)
          have r := c_isub (27 : Int32) ((((x.toUInt32 >>> ((4 : Int32) &&& 31).toUInt32).toInt32).toUInt32 >>> ((1 : Int32) &&& 31).toUInt32).toInt32)
          rw [← t7] at r
          have g1 := (f_ni x).toInt_lt; have g2 := (f_ni x).le_toInt
          have e1 : ((27 : Int32)).toInt = 27 := rfl
          clear t7
          generalize (f_ni x).toInt = F at *
          generalize ((((x.toUInt32 >>> ((4 : Int32) &&& 31).toUInt32).toInt32).toUInt32 >>> ((1 : Int32) &&& 31).toUInt32).toInt32).toInt = G at *
          generalize ((x.toUInt32 >>> ((4 : Int32) &&& 31).toUInt32).toInt32).toInt = Q at *
          by_cases hQ : Q = 1
          · exact ⟨5, by decide, by omega, by omega⟩
          · exact ⟨6, by decide, by omega, by omega⟩
        · have t7 := t3.trans (if_neg h7)
          clear t3
          rw [Int32.lt_iff_toInt_lt, show (4 : Int32).toInt = 4 from rfl] at h7
          have s2 := c_iushr ((x.toUInt32 >>> ((4 : Int32) &&& 31).toUInt32).toInt32) 2 2 (by decide) (by decide)
          have s := c_iushr ((((x.toUInt32 >>> ((4 : Int32) &&& 31).toUInt32).toInt32).toUInt32 >>> ((2 : Int32) &&& 31).toUInt32).toInt32) 1 1 (by decide) (by decide)
          have r := c_isub (25 : Int32) ((((((x.toUInt32 >>> ((4 : Int32) &&& 31).toUInt32).toInt32).toUInt32 >>> ((2 : Int32) &&& 31).toUInt32).toInt32).toUInt32 >>> ((1 : Int32) &&& 31).toUInt32).toInt32)
          rw [← t7] at r
          have g1 := (f_ni x).toInt_lt; have g2 := (f_ni x).le_toInt
          have e1 : ((25 : Int32)).toInt = 25 := rfl
          clear t7
          generalize (f_ni x).toInt = F at *
          generalize ((((((x.toUInt32 >>> ((4 : Int32) &&& 31).toUInt32).toInt32).toUInt32 >>> ((2 : Int32) &&& 31).toUInt32).toInt32).toUInt32 >>> ((1 : Int32) &&& 31).toUInt32).toInt32).toInt = G at *
          generalize ((((x.toUInt32 >>> ((4 : Int32) &&& 31).toUInt32).toInt32).toUInt32 >>> ((2 : Int32) &&& 31).toUInt32).toInt32).toInt = Q at *
          by_cases hQ : Q = 1
          · exact ⟨7, by decide, by omega, by omega⟩
          · exact ⟨8, by decide, by omega, by omega⟩
    · have t2 := t1.trans (if_neg h2)
      clear t1
      rw [Int32.lt_iff_toInt_lt, show (256 : Int32).toInt = 256 from rfl] at h2
      have s8 := c_iushr x 8 8 (by decide) (by decide)
      by_cases h10 : ((x.toUInt32 >>> ((8 : Int32) &&& 31).toUInt32).toInt32) < (16 : Int32)
      · have t10 := t2.trans (if_pos h10)
        clear t2
        rw [Int32.lt_iff_toInt_lt, show (16 : Int32).toInt = 16 from rfl] at h10
        by_cases h11 : ((x.toUInt32 >>> ((8 : Int32) &&& 31).toUInt32).toInt32) < (4 : Int32)
        · have t11 := t10.trans (if_pos h11)
          clear t10
          rw [Int32.lt_iff_toInt_lt, show (4 : Int32).toInt = 4 from rfl] at h11
          have s := c_iushr ((x.toUInt32 >>> ((8 : Int32) &&& 31).toUInt32).toInt32) 1 1 (by decide) (by decide)
          have r := c_isub (23 : Int32) ((((x.toUInt32 >>> ((8 : Int32) &&& 31).toUInt32).toInt32).toUInt32 >>> ((1 : Int32) &&& 31).toUInt32).toInt32)
          rw [← t11] at r
          have g1 := (f_ni x).toInt_lt; have g2 := (f_ni x).le_toInt
          have e1 : ((23 : Int32)).toInt = 23 := rfl
          clear t11
          generalize (f_ni x).toInt = F at *
          generalize ((((x.toUInt32 >>> ((8 : Int32) &&& 31).toUInt32).toInt32).toUInt32 >>> ((1 : Int32) &&& 31).toUInt32).toInt32).toInt = G at *
          generalize ((x.toUInt32 >>> ((8 : Int32) &&& 31).toUInt32).toInt32).toInt = Q at *
          by_cases hQ : Q = 1
          · exact ⟨9, by decide, by omega, by omega⟩
          · exact ⟨10, by decide, by omega, by omega⟩
        · have t11 := t10.trans (if_neg h11)
          clear t10
          rw [Int32.lt_iff_toInt_lt, show (4 : Int32).toInt = 4 from rfl] at h11
          have s2 := c_iushr ((x.toUInt32 >>> ((8 : Int32) &&& 31).toUInt32).toInt32) 2 2 (by decide) (by decide)
          have s := c_iushr ((((x.toUInt32 >>> ((8 : Int32) &&& 31).toUInt32).toInt32).toUInt32 >>> ((2 : Int32) &&& 31).toUInt32).toInt32) 1 1 (by decide) (by decide)
          have r := c_isub (21 : Int32) ((((((x.toUInt32 >>> ((8 : Int32) &&& 31).toUInt32).toInt32).toUInt32 >>> ((2 : Int32) &&& 31).toUInt32).toInt32).toUInt32 >>> ((1 : Int32) &&& 31).toUInt32).toInt32)
          rw [← t11] at r
          have g1 := (f_ni x).toInt_lt; have g2 := (f_ni x).le_toInt
          have e1 : ((21 : Int32)).toInt = 21 := rfl
          clear t11
          generalize (f_ni x).toInt = F at *
          generalize ((((((x.toUInt32 >>> ((8 : Int32) &&& 31).toUInt32).toInt32).toUInt32 >>> ((2 : Int32) &&& 31).toUInt32).toInt32).toUInt32 >>> ((1 : Int32) &&& 31).toUInt32).toInt32).toInt = G at *
          generalize ((((x.toUInt32 >>> ((8 : Int32) &&& 31).toUInt32).toInt32).toUInt32 >>> ((2 : Int32) &&& 31).toUInt32).toInt32).toInt = Q at *
          by_cases hQ : Q = 1
          · exact ⟨11, by decide, by omega, by omega⟩
          · exact ⟨12, by decide, by omega, by omega⟩
      · have t10 := t2.trans (if_neg h10)
        clear t2
        rw [Int32.lt_iff_toInt_lt, show (16 : Int32).toInt = 16 from rfl] at h10
        have s4 := c_iushr ((x.toUInt32 >>> ((8 : Int32) &&& 31).toUInt32).toInt32) 4 4 (by decide) (by decide)
        by_cases h14 : ((((x.toUInt32 >>> ((8 : Int32) &&& 31).toUInt32).toInt32).toUInt32 >>> ((4 : Int32) &&& 31).toUInt32).toInt32) < (4 : Int32)
        · have t14 := t10.trans (if_pos h14)
          clear t10
          rw [Int32.lt_iff_toInt_lt, show (4 : Int32).toInt = 4 from rfl] at h14
          have s := c_iushr ((((x.toUInt32 >>> ((8 : Int32) &&& 31).toUInt32).toInt32).toUInt32 >>> ((4 : Int32) &&& 31).toUInt32).toInt32) 1 1 (by decide) (by decide)
          have r := c_isub (19 : Int32) ((((((x.toUInt32 >>> ((8 : Int32) &&& 31).toUInt32).toInt32).toUInt32 >>> ((4 : Int32) &&& 31).toUInt32).toInt32).toUInt32 >>> ((1 : Int32) &&& 31).toUInt32).toInt32)
          rw [← t14] at r
          have g1 := (f_ni x).toInt_lt; have g2 := (f_ni x).le_toInt
          have e1 : ((19 : Int32)).toInt = 19 := rfl
          clear t14
          generalize (f_ni x).toInt = F at *
          generalize ((((((x.toUInt32 >>> ((8 : Int32) &&& 31).toUInt32).toInt32).toUInt32 >>> ((4 : Int32) &&& 31).toUInt32).toInt32).toUInt32 >>> ((1 : Int32) &&& 31).toUInt32).toInt32).toInt = G at *
          generalize ((((x.toUInt32 >>> ((8 : Int32) &&& 31).toUInt32).toInt32).toUInt32 >>> ((4 : Int32) &&& 31).toUInt32).toInt32).toInt = Q at *
          by_cases hQ : Q = 1
          · exact ⟨13, by decide, by omega, by omega⟩
          · exact ⟨14, by decide, by omega, by omega⟩
        · have t14 := t10.trans (if_neg h14)
          clear t10
          rw [Int32.lt_iff_toInt_lt, show (4 : Int32).toInt = 4 from rfl] at h14
          have s2 := c_iushr ((((x.toUInt32 >>> ((8 : Int32) &&& 31).toUInt32).toInt32).toUInt32 >>> ((4 : Int32) &&& 31).toUInt32).toInt32) 2 2 (by decide) (by decide)
          have s := c_iushr ((((((x.toUInt32 >>> ((8 : Int32) &&& 31).toUInt32).toInt32).toUInt32 >>> ((4 : Int32) &&& 31).toUInt32).toInt32).toUInt32 >>> ((2 : Int32) &&& 31).toUInt32).toInt32) 1 1 (by decide) (by decide)
          have r := c_isub (17 : Int32) ((((((((x.toUInt32 >>> ((8 : Int32) &&& 31).toUInt32).toInt32).toUInt32 >>> ((4 : Int32) &&& 31).toUInt32).toInt32).toUInt32 >>> ((2 : Int32) &&& 31).toUInt32).toInt32).toUInt32 >>> ((1 : Int32) &&& 31).toUInt32).toInt32)
          rw [← t14] at r
          have g1 := (f_ni x).toInt_lt; have g2 := (f_ni x).le_toInt
          have e1 : ((17 : Int32)).toInt = 17 := rfl
          clear t14
          generalize (f_ni x).toInt = F at *
          generalize ((((((((x.toUInt32 >>> ((8 : Int32) &&& 31).toUInt32).toInt32).toUInt32 >>> ((4 : Int32) &&& 31).toUInt32).toInt32).toUInt32 >>> ((2 : Int32) &&& 31).toUInt32).toInt32).toUInt32 >>> ((1 : Int32) &&& 31).toUInt32).toInt32).toInt = G at *
          generalize ((((((x.toUInt32 >>> ((8 : Int32) &&& 31).toUInt32).toInt32).toUInt32 >>> ((4 : Int32) &&& 31).toUInt32).toInt32).toUInt32 >>> ((2 : Int32) &&& 31).toUInt32).toInt32).toInt = Q at *
          by_cases hQ : Q = 1
          · exact ⟨15, by decide, by omega, by omega⟩
          · exact ⟨16, by decide, by omega, by omega⟩
  · have t1 := t0.trans (if_neg h1)
    clear t0
    rw [Int32.lt_iff_toInt_lt, show (65536 : Int32).toInt = 65536 from rfl] at h1
    have s16 := c_iushr x 16 16 (by decide) (by decide)
    by_cases h17 : ((x.toUInt32 >>> ((16 : Int32) &&& 31).toUInt32).toInt32) < (256 : Int32)
    · have t17 := t1.trans (if_pos h17)
      clear t1
      rw [Int32.lt_iff_toInt_lt, show (256 : Int32).toInt = 256 from rfl] at h17
      by_cases h18 : ((x.toUInt32 >>> ((16 : Int32) &&& 31).toUInt32).toInt32) < (16 : Int32)
      · have t18 := t17.trans (if_pos h18)
        clear t17
        rw [Int32.lt_iff_toInt_lt, show (16 : Int32).toInt = 16 from rfl] at h18
        by_cases h19 : ((x.toUInt32 >>> ((16 : Int32) &&& 31).toUInt32).toInt32) < (4 : Int32)
        · have t19 := t18.trans (if_pos h19)
          clear t18
          rw [Int32.lt_iff_toInt_lt, show (4 : Int32).toInt = 4 from rfl] at h19
          have s := c_iushr ((x.toUInt32 >>> ((16 : Int32) &&& 31).toUInt32).toInt32) 1 1 (by decide) (by decide)
          have r := c_isub (15 : Int32) ((((x.toUInt32 >>> ((16 : Int32) &&& 31).toUInt32).toInt32).toUInt32 >>> ((1 : Int32) &&& 31).toUInt32).toInt32)
          rw [← t19] at r
          have g1 := (f_ni x).toInt_lt; have g2 := (f_ni x).le_toInt
          have e1 : ((15 : Int32)).toInt = 15 := rfl
          clear t19
          generalize (f_ni x).toInt = F at *
          generalize ((((x.toUInt32 >>> ((16 : Int32) &&& 31).toUInt32).toInt32).toUInt32 >>> ((1 : Int32) &&& 31).toUInt32).toInt32).toInt = G at *
          generalize ((x.toUInt32 >>> ((16 : Int32) &&& 31).toUInt32).toInt32).toInt = Q at *
          by_cases hQ : Q = 1
          · exact ⟨17, by decide, by omega, by omega⟩
          · exact ⟨18, by decide, by omega, by omega⟩
        · have t19 := t18.trans (if_neg h19)
          clear t18
          rw [Int32.lt_iff_toInt_lt, show (4 : Int32).toInt = 4 from rfl] at h19
          have s2 := c_iushr ((x.toUInt32 >>> ((16 : Int32) &&& 31).toUInt32).toInt32) 2 2 (by decide) (by decide)
          have s := c_iushr ((((x.toUInt32 >>> ((16 : Int32) &&& 31).toUInt32).toInt32).toUInt32 >>> ((2 : Int32) &&& 31).toUInt32).toInt32) 1 1 (by decide) (by decide)
          have r := c_isub (13 : Int32) ((((((x.toUInt32 >>> ((16 : Int32) &&& 31).toUInt32).toInt32).toUInt32 >>> ((2 : Int32) &&& 31).toUInt32).toInt32).toUInt32 >>> ((1 : Int32) &&& 31).toUInt32).toInt32)
          rw [← t19] at r
          have g1 := (f_ni x).toInt_lt; have g2 := (f_ni x).le_toInt
          have e1 : ((13 : Int32)).toInt = 13 := rfl
          clear t19
          generalize (f_ni x).toInt = F at *
          generalize ((((((x.toUInt32 >>> ((16 : Int32) &&& 31).toUInt32).toInt32).toUInt32 >>> ((2 : Int32) &&& 31).toUInt32).toInt32).toUInt32 >>> ((1 : Int32) &&& 31).toUInt32).toInt32).toInt = G at *
          generalize ((((x.toUInt32 >>> ((16 : Int32) &&& 31).toUInt32).toInt32).toUInt32 >>> ((2 : Int32) &&& 31).toUInt32).toInt32).toInt = Q at *
          by_cases hQ : Q = 1
          · exact ⟨19, by decide, by omega, by omega⟩
          · exact ⟨20, by decide, by omega, by omega⟩
      · have t18 := t17.trans (if_neg h18)
        clear t17
        rw [Int32.lt_iff_toInt_lt, show (16 : Int32).toInt = 16 from rfl] at h18
        have s4 := c_iushr ((x.toUInt32 >>> ((16 : Int32) &&& 31).toUInt32).toInt32) 4 4 (by decide) (by decide)
        by_cases h22 : ((((x.toUInt32 >>> ((16 : Int32) &&& 31).toUInt32).toInt32).toUInt32 >>> ((4 : Int32) &&& 31).toUInt32).toInt32) < (4 : Int32)
        · have t22 := t18.trans (if_pos h22)
          clear t18
          rw [Int32.lt_iff_toInt_lt, show (4 : Int32).toInt = 4 from rfl] at h22
          have s := c_iushr ((((x.toUInt32 >>> ((16 : Int32) &&& 31).toUInt32).toInt32).toUInt32 >>> ((4 : Int32) &&& 31).toUInt32).toInt32) 1 1 (by decide) (by decide)
          have r := c_isub (11 : Int32) ((((((x.toUInt32 >>> ((16 : Int32) &&& 31).toUInt32).toInt32).toUInt32 >>> ((4 : Int32) &&& 31).toUInt32).toInt32).toUInt32 >>> ((1 : Int32) &&& 31).toUInt32).toInt32)
          rw [← t22] at r
          have g1 := (f_ni x).toInt_lt; have g2 := (f_ni x).le_toInt
          have e1 : ((11 : Int32)).toInt = 11 := rfl
          clear t22
          generalize (f_ni x).toInt = F at *
          generalize ((((((x.toUInt32 >>> ((16 : Int32) &&& 31).toUInt32).toInt32).toUInt32 >>> ((4 : Int32) &&& 31).toUInt32).toInt32).toUInt32 >>> ((1 : Int32) &&& 31).toUInt32).toInt32).toInt = G at *
          generalize ((((x.toUInt32 >>> ((16 : Int32) &&& 31).toUInt32).toInt32).toUInt32 >>> ((4 : Int32) &&& 31).toUInt32).toInt32).toInt = Q at *
          by_cases hQ : Q = 1
          · exact ⟨21, by decide, by omega, by omega⟩
          · exact ⟨22, by decide, by omega, by omega⟩
        · have t22 := t18.trans (if_neg h22)
          clear t18
          rw [Int32.lt_iff_toInt_lt, show (4 : Int32).toInt = 4 from rfl] at h22
          have s2 := c_iushr ((((x.toUInt32 >>> ((16 : Int32) &&& 31).toUInt32).toInt32).toUInt32 >>> ((4 : Int32) &&& 31).toUInt32).toInt32) 2 2 (by decide) (by decide)
          have s := c_iushr ((((((x.toUInt32 >>> ((16 : Int32) &&& 31).toUInt32).toInt32).toUInt32 >>> ((4 : Int32) &&& 31).toUInt32).toInt32).toUInt32 >>> ((2 : Int32) &&& 31).toUInt32).toInt32) 1 1 (by decide) (by decide)
          have r := c_isub (9 : Int32) ((((((((x.toUInt32 >>> ((16 : Int32) &&& 31).toUInt32).toInt32).toUInt32 >>> ((4 : Int32) &&& 31).toUInt32).toInt32).toUInt32 >>> ((2 : Int32) &&& 31).toUInt32).toInt32).toUInt32 >>> ((1 : Int32) &&& 31).toUInt32).toInt32)
          rw [← t22] at r
          have g1 := (f_ni x).toInt_lt; have g2 := (f_ni x).le_toInt
          have e1 : ((9 : Int32)).toInt = 9 := rfl
          clear t22
          generalize (f_ni x).toInt = F at *
          generalize ((((((((x.toUInt32 >>> ((16 : Int32) &&& 31).toUInt32).toInt32).toUInt32 >>> ((4 : Int32) &&& 31).toUInt32).toInt32).toUInt32 >>> ((2 : Int32) &&& 31).toUInt32).toInt32).toUInt32 >>> ((1 : Int32) &&& 31).toUInt32).toInt32).toInt = G at *
          generalize ((((((x.toUInt32 >>> ((16 : Int32) &&& 31).toUInt32).toInt32).toUInt32 >>> ((4 : Int32) &&& 31).toUInt32).toInt32).toUInt32 >>> ((2 : Int32) &&& 31).toUInt32).toInt32).toInt = Q at *
          by_cases hQ : Q = 1
          · exact ⟨23, by decide, by omega, by omega⟩
          · exact ⟨24, by decide, by omega, by omega⟩
    · have t17 := t1.trans (if_neg h17)
      clear t1
      rw [Int32.lt_iff_toInt_lt, show (256 : Int32).toInt = 256 from rfl] at h17
      have s8 := c_iushr ((x.toUInt32 >>> ((16 : Int32) &&& 31).toUInt32).toInt32) 8 8 (by decide) (by decide)
      by_cases h25 : ((((x.toUInt32 >>> ((16 : Int32) &&& 31).toUInt32).toInt32).toUInt32 >>> ((8 : Int32) &&& 31).toUInt32).toInt32) < (16 : Int32)
      · have t25 := t17.trans (if_pos h25)
        clear t17
        rw [Int32.lt_iff_toInt_lt, show (16 : Int32).toInt = 16 from rfl] at h25
        by_cases h26 : ((((x.toUInt32 >>> ((16 : Int32) &&& 31).toUInt32).toInt32).toUInt32 >>> ((8 : Int32) &&& 31).toUInt32).toInt32) < (4 : Int32)
        · have t26 := t25.trans (if_pos h26)
          clear t25
          rw [Int32.lt_iff_toInt_lt, show (4 : Int32).toInt = 4 from rfl] at h26
          have s := c_iushr ((((x.toUInt32 >>> ((16 : Int32) &&& 31).toUInt32).toInt32).toUInt32 >>> ((8 : Int32) &&& 31).toUInt32).toInt32) 1 1 (by decide) (by decide)
          have r := c_isub (7 : Int32) ((((((x.toUInt32 >>> ((16 : Int32) &&& 31).toUInt32).toInt32).toUInt32 >>> ((8 : Int32) &&& 31).toUInt32).toInt32).toUInt32 >>> ((1 : Int32) &&& 31).toUInt32).toInt32)
          rw [← t26] at r
          have g1 := (f_ni x).toInt_lt; have g2 := (f_ni x).le_toInt
          have e1 : ((7 : Int32)).toInt = 7 := rfl
          clear t26
          generalize (f_ni x).toInt = F at *
          generalize ((((((x.toUInt32 >>> ((16 : Int32) &&& 31).toUInt32).toInt32).toUInt32 >>> ((8 : Int32) &&& 31).toUInt32).toInt32).toUInt32 >>> ((1 : Int32) &&& 31).toUInt32).toInt32).toInt = G at *
          generalize ((((x.toUInt32 >>> ((16 : Int32) &&& 31).toUInt32).toInt32).toUInt32 >>> ((8 : Int32) &&& 31).toUInt32).toInt32).toInt = Q at *
          by_cases hQ : Q = 1
          · exact ⟨25, by decide, by omega, by omega⟩
          · exact ⟨26, by decide, by omega, by omega⟩
        · have t26 := t25.trans (if_neg h26)
          clear t25
          rw [Int32.lt_iff_toInt_lt, show (4 : Int32).toInt = 4 from rfl] at h26
          have s2 := c_iushr ((((x.toUInt32 >>> ((16 : Int32) &&& 31).toUInt32).toInt32).toUInt32 >>> ((8 : Int32) &&& 31).toUInt32).toInt32) 2 2 (by decide) (by decide)
          have s := c_iushr ((((((x.toUInt32 >>> ((16 : Int32) &&& 31).toUInt32).toInt32).toUInt32 >>> ((8 : Int32) &&& 31).toUInt32).toInt32).toUInt32 >>> ((2 : Int32) &&& 31).toUInt32).toInt32) 1 1 (by decide) (by decide)
          have r := c_isub (5 : Int32) ((((((((x.toUInt32 >>> ((16 : Int32) &&& 31).toUInt32).toInt32).toUInt32 >>> ((8 : Int32) &&& 31).toUInt32).toInt32).toUInt32 >>> ((2 : Int32) &&& 31).toUInt32).toInt32).toUInt32 >>> ((1 : Int32) &&& 31).toUInt32).toInt32)
          rw [← t26] at r
          have g1 := (f_ni x).toInt_lt; have g2 := (f_ni x).le_toInt
          have e1 : ((5 : Int32)).toInt = 5 := rfl
          clear t26
          generalize (f_ni x).toInt = F at *
          generalize ((((((((x.toUInt32 >>> ((16 : Int32) &&& 31).toUInt32).toInt32).toUInt32 >>> ((8 : Int32) &&& 31).toUInt32).toInt32).toUInt32 >>> ((2 : Int32) &&& 31).toUInt32).toInt32).toUInt32 >>> ((1 : Int32) &&& 31).toUInt32).toInt32).toInt = G at *
          generalize ((((((x.toUInt32 >>> ((16 : Int32) &&& 31).toUInt32).toInt32).toUInt32 >>> ((8 : Int32) &&& 31).toUInt32).toInt32).toUInt32 >>> ((2 : Int32) &&& 31).toUInt32).toInt32).toInt = Q at *
          by_cases hQ : Q = 1
          · exact ⟨27, by decide, by omega, by omega⟩
          · exact ⟨28, by decide, by omega, by omega⟩
      · have t25 := t17.trans (if_neg h25)
        clear t17
        rw [Int32.lt_iff_toInt_lt, show (16 : Int32).toInt = 16 from rfl] at h25
        have s4 := c_iushr ((((x.toUInt32 >>> ((16 : Int32) &&& 31).toUInt32).toInt32).toUInt32 >>> ((8 : Int32) &&& 31).toUInt32).toInt32) 4 4 (by decide) (by decide)
        by_cases h29 : ((((((x.toUInt32 >>> ((16 : Int32) &&& 31).toUInt32).toInt32).toUInt32 >>> ((8 : Int32) &&& 31).toUInt32).toInt32).toUInt32 >>> ((4 : Int32) &&& 31).toUInt32).toInt32) < (4 : Int32)
        · have t29 := t25.trans (if_pos h29)
          clear t25
          rw [Int32.lt_iff_toInt_lt, show (4 : Int32).toInt = 4 from rfl] at h29
          have s := c_iushr ((((((x.toUInt32 >>> ((16 : Int32) &&& 31).toUInt32).toInt32).toUInt32 >>> ((8 : Int32) &&& 31).toUInt32).toInt32).toUInt32 >>> ((4 : Int32) &&& 31).toUInt32).toInt32) 1 1 (by decide) (by decide)
          have r := c_isub (3 : Int32) ((((((((x.toUInt32 >>> ((16 : Int32) &&& 31).toUInt32).toInt32).toUInt32 >>> ((8 : Int32) &&& 31).toUInt32).toInt32).toUInt32 >>> ((4 : Int32) &&& 31).toUInt32).toInt32).toUInt32 >>> ((1 : Int32) &&& 31).toUInt32).toInt32)
          rw [← t29] at r
          have g1 := (f_ni x).toInt_lt; have g2 := (f_ni x).le_toInt
          have e1 : ((3 : Int32)).toInt = 3 := rfl
          clear t29
          generalize (f_ni x).toInt = F at *
          generalize ((((((((x.toUInt32 >>> ((16 : Int32) &&& 31).toUInt32).toInt32).toUInt32 >>> ((8 : Int32) &&& 31).toUInt32).toInt32).toUInt32 >>> ((4 : Int32) &&& 31).toUInt32).toInt32).toUInt32 >>> ((1 : Int32) &&& 31).toUInt32).toInt32).toInt = G at *
          generalize ((((((x.toUInt32 >>> ((16 : Int32) &&& 31).toUInt32).toInt32).toUInt32 >>> ((8 : Int32) &&& 31).toUInt32).toInt32).toUInt32 >>> ((4 : Int32) &&& 31).toUInt32).toInt32).toInt = Q at *
          by_cases hQ : Q = 1
          · exact ⟨29, by decide, by omega, by omega⟩
          · exact ⟨30, by decide, by omega, by omega⟩
        · have t29 := t25.trans (if_neg h29)
          clear t25
          rw [Int32.lt_iff_toInt_lt, show (4 : Int32).toInt = 4 from rfl] at h29
          have s2 := c_iushr ((((((x.toUInt32 >>> ((16 : Int32) &&& 31).toUInt32).toInt32).toUInt32 >>> ((8 : Int32) &&& 31).toUInt32).toInt32).toUInt32 >>> ((4 : Int32) &&& 31).toUInt32).toInt32) 2 2 (by decide) (by decide)
          have s := c_iushr ((((((((x.toUInt32 >>> ((16 : Int32) &&& 31).toUInt32).toInt32).toUInt32 >>> ((8 : Int32) &&& 31).toUInt32).toInt32).toUInt32 >>> ((4 : Int32) &&& 31).toUInt32).toInt32).toUInt32 >>> ((2 : Int32) &&& 31).toUInt32).toInt32) 1 1 (by decide) (by decide)
          have r := c_isub (1 : Int32) ((((((((((x.toUInt32 >>> ((16 : Int32) &&& 31).toUInt32).toInt32).toUInt32 >>> ((8 : Int32) &&& 31).toUInt32).toInt32).toUInt32 >>> ((4 : Int32) &&& 31).toUInt32).toInt32).toUInt32 >>> ((2 : Int32) &&& 31).toUInt32).toInt32).toUInt32 >>> ((1 : Int32) &&& 31).toUInt32).toInt32)
          rw [← t29] at r
          have g1 := (f_ni x).toInt_lt; have g2 := (f_ni x).le_toInt
          have e1 : ((1 : Int32)).toInt = 1 := rfl
          clear t29
          generalize (f_ni x).toInt = F at *
          generalize ((((((((((x.toUInt32 >>> ((16 : Int32) &&& 31).toUInt32).toInt32).toUInt32 >>> ((8 : Int32) &&& 31).toUInt32).toInt32).toUInt32 >>> ((4 : Int32) &&& 31).toUInt32).toInt32).toUInt32 >>> ((2 : Int32) &&& 31).toUInt32).toInt32).toUInt32 >>> ((1 : Int32) &&& 31).toUInt32).toInt32).toInt = G at *
          generalize ((((((((x.toUInt32 >>> ((16 : Int32) &&& 31).toUInt32).toInt32).toUInt32 >>> ((8 : Int32) &&& 31).toUInt32).toInt32).toUInt32 >>> ((4 : Int32) &&& 31).toUInt32).toInt32).toUInt32 >>> ((2 : Int32) &&& 31).toUInt32).toInt32).toInt = Q at *
          by_cases hQ : Q = 1
          · exact ⟨31, by decide, by omega, by omega⟩
          · exact ⟨32, by decide, by omega, by omega⟩
theorem own_ni0 : f_ni 0 = 32 := by decide
theorem own_nin (x : Int32) (hx : x.toInt < 0) : f_ni x = 0 := by
  have h1 : ¬ (0 : Int32) < x := by rw [Int32.lt_iff_toInt_lt, show (0 : Int32).toInt = 0 from rfl]; omega
  have h2 : ¬ x = 0 := fun q => by rw [q] at hx; exact absurd hx (by decide)
  have t := (show f_ni x = _ from rfl).trans (if_neg h1)
  exact t.trans (if_neg h2)
def bt (lo hi : Int32) : Int32 := (64 : Int32) - f_nl ((((hi.toInt64) - (lo.toInt64)) + (1 : Int64)) - (1 : Int64))
theorem own_bt (lo hi : Int32) (h : ¬ hi < lo) : ∃ b : Nat, b ≤ 32 ∧ (bt lo hi).toInt = (b : Int) ∧ hi.toInt - lo.toInt < (2 ^ b : Nat) := by
  rw [Int32.lt_iff_toInt_lt] at h
  have b1 := hi.toInt_lt; have b2 := hi.le_toInt; have b3 := lo.toInt_lt; have b4 := lo.le_toInt
  have hd : ((((hi.toInt64) - (lo.toInt64)) + (1 : Int64)) - (1 : Int64)).toInt = hi.toInt - lo.toInt := by
    have a1 := c_lsub hi.toInt64 lo.toInt64
    have a2 := c_ladd ((hi.toInt64) - (lo.toInt64)) 1
    have a3 := c_lsub (((hi.toInt64) - (lo.toInt64)) + (1 : Int64)) 1
    rw [c_i2l, c_i2l] at a1
    have e1 : (1 : Int64).toInt = 1 := rfl
    have b5 := ((((hi.toInt64) - (lo.toInt64)) + (1 : Int64)) - (1 : Int64)).toInt_lt; have b6 := ((((hi.toInt64) - (lo.toInt64)) + (1 : Int64)) - (1 : Int64)).le_toInt
    omega
  show ∃ b : Nat, b ≤ 32 ∧ ((64 : Int32) - f_nl ((((hi.toInt64) - (lo.toInt64)) + (1 : Int64)) - (1 : Int64))).toInt = (b : Int) ∧ _
  generalize ((((hi.toInt64) - (lo.toInt64)) + (1 : Int64)) - (1 : Int64)) = d at *
  have d1 := c_lushr d 32 32 (by decide) (by decide)
  have d2 := c_l2i ((d.toUInt64 >>> ((32 : Int32) &&& 0x3f).toInt64.toUInt64).toInt64)
  have d3 : (((d.toUInt64 >>> ((32 : Int32) &&& 0x3f).toInt64.toUInt64).toInt64).toInt32) = (0 : Int32) := by
    rw [← Int32.toInt_inj, show (0 : Int32).toInt = 0 from rfl]
    have g1 := (((d.toUInt64 >>> ((32 : Int32) &&& 0x3f).toInt64.toUInt64).toInt64).toInt32).toInt_lt; have g2 := (((d.toUInt64 >>> ((32 : Int32) &&& 0x3f).toInt64.toUInt64).toInt64).toInt32).le_toInt
    omega
  have t : f_nl d = (32 : Int32) + f_ni d.toInt32 := if_pos d3
  rw [t]
  have d4 := c_l2i d
  have g1 := d.toInt32.toInt_lt; have g2 := d.toInt32.le_toInt
  have s1 := c_iadd 32 (f_ni d.toInt32)
  have s2 := c_isub 64 ((32 : Int32) + f_ni d.toInt32)
  have g3 := ((64 : Int32) - ((32 : Int32) + f_ni d.toInt32)).toInt_lt; have g4 := ((64 : Int32) - ((32 : Int32) + f_ni d.toInt32)).le_toInt
  have e1 : (32 : Int32).toInt = 32 := rfl
  have e2 : (64 : Int32).toInt = 64 := rfl
  by_cases c1 : 0 < d.toInt32.toInt
  · obtain ⟨b, q1, q2, q3⟩ := own_ni _ c1
    refine ⟨b, q1, by omega, ?_⟩
    omega
  · by_cases c2 : d.toInt32.toInt < 0
    · rw [own_nin _ c2] at s1 s2 g3 g4 ⊢
      have e3 : (0 : Int32).toInt = 0 := rfl
      exact ⟨32, by decide, by omega, by omega⟩
    · have c3 : d.toInt32 = 0 := by rw [← Int32.toInt_inj, show (0 : Int32).toInt = 0 from rfl]; omega
      rw [c3, own_ni0] at s1 s2 g3 g4 ⊢
      exact ⟨0, by decide, by omega, by omega⟩
theorem own_hi (lo : Int32) (w : Int64) : ¬ f_hi lo (w &&& (4294967295 : Int64)) < lo := by
  have m := c_maskL w 4294967295 32 (by decide) (by decide)
  have a1 := c_ladd lo.toInt64 (w &&& (4294967295 : Int64))
  rw [c_i2l] at a1
  have b3 := lo.toInt_lt; have b4 := lo.le_toInt
  have b5 := (lo.toInt64 + (w &&& (4294967295 : Int64))).toInt_lt; have b6 := (lo.toInt64 + (w &&& (4294967295 : Int64))).le_toInt
  have a2 := c_l2i (lo.toInt64 + (w &&& (4294967295 : Int64)))
  have b7 := (lo.toInt64 + (w &&& (4294967295 : Int64))).toInt32.toInt_lt; have b8 := (lo.toInt64 + (w &&& (4294967295 : Int64))).toInt32.le_toInt
  rw [Int32.lt_iff_toInt_lt]
  by_cases h : (2147483647 : Int64) < (lo.toInt64 + (w &&& (4294967295 : Int64)))
  · rw [show f_hi lo (w &&& (4294967295 : Int64)) = ((2147483647 : Int64).toInt32) from if_pos h, show ((2147483647 : Int64).toInt32).toInt = 2147483647 from rfl]
    omega
  · rw [show f_hi lo (w &&& (4294967295 : Int64)) = (lo.toInt64 + (w &&& (4294967295 : Int64))).toInt32 from if_neg h]
    rw [Int64.lt_iff_toInt_lt, show (2147483647 : Int64).toInt = 2147483647 from rfl] at h
    omega
theorem own_pk (lo hi : Int32) (u : Int64) (h : ¬ hi < lo) (hu : 0 ≤ u.toInt) : lo.toInt ≤ (f_pk lo hi u).toInt ∧ (f_pk lo hi u).toInt ≤ hi.toInt := by
  rw [Int32.lt_iff_toInt_lt] at h
  have b1 := hi.toInt_lt; have b2 := hi.le_toInt; have b3 := lo.toInt_lt; have b4 := lo.le_toInt
  have hd : (((hi.toInt64) - (lo.toInt64)) + (1 : Int64)).toInt = hi.toInt - lo.toInt + 1 := by
    have a1 := c_lsub hi.toInt64 lo.toInt64
    have a2 := c_ladd ((hi.toInt64) - (lo.toInt64)) 1
    rw [c_i2l, c_i2l] at a1
    have e1 : (1 : Int64).toInt = 1 := rfl
    have b5 := (((hi.toInt64) - (lo.toInt64)) + (1 : Int64)).toInt_lt; have b6 := (((hi.toInt64) - (lo.toInt64)) + (1 : Int64)).le_toInt
    omega
  have r := (c_lrem u _ _ hd).1 hu
  have r1 := Int.emod_nonneg u.toInt (show hi.toInt - lo.toInt + 1 ≠ 0 by omega)
  have r2 := Int.emod_lt_of_pos u.toInt (show 0 < hi.toInt - lo.toInt + 1 by omega)
  rw [← r] at r1 r2
  clear r
  show _ ≤ (((lo.toInt64) + (u - (u / (((hi.toInt64) - (lo.toInt64)) + (1 : Int64))) * (((hi.toInt64) - (lo.toInt64)) + (1 : Int64)))).toInt32).toInt ∧ (((lo.toInt64) + (u - (u / (((hi.toInt64) - (lo.toInt64)) + (1 : Int64))) * (((hi.toInt64) - (lo.toInt64)) + (1 : Int64)))).toInt32).toInt ≤ _
  generalize (u - (u / (((hi.toInt64) - (lo.toInt64)) + (1 : Int64))) * (((hi.toInt64) - (lo.toInt64)) + (1 : Int64))) = y at *
  have s1 := c_ladd lo.toInt64 y
  have s2 := c_l2i (lo.toInt64 + y)
  rw [c_i2l] at s1
  have g1 := (lo.toInt64 + y).toInt_lt; have g2 := (lo.toInt64 + y).le_toInt
  have g3 := (lo.toInt64 + y).toInt32.toInt_lt; have g4 := (lo.toInt64 + y).toInt32.le_toInt
  omega
theorem own_enc (lo hi v : Int32) (b : Nat) (h : lo.toInt ≤ v.toInt ∧ v.toInt ≤ hi.toInt) (hb : hi.toInt - lo.toInt < (2 ^ b : Nat)) : nt (enc v lo) < 2 ^ b := by
  have a1 : ((enc v lo).toInt - (v.toInt64.toInt - lo.toInt64.toInt)) % 18446744073709551616 = 0 := c_lsub v.toInt64 lo.toInt64
  rw [c_i2l, c_i2l] at a1
  have b1 := v.toInt_lt; have b2 := v.le_toInt; have b3 := lo.toInt_lt; have b4 := lo.le_toInt
  have g1 := (enc v lo).toInt_lt; have g2 := (enc v lo).le_toInt
  have e1 : (enc v lo).toInt = v.toInt - lo.toInt := by omega
  have e2 : ((enc v lo).toBitVec.toInt) = (enc v lo).toInt := rfl
  rw [BitVec.toInt_eq_toNat_cond] at e2
  show (enc v lo).toBitVec.toNat < _
  generalize 2 ^ b = P at *
  split at e2 <;> omega
theorem own_rot (x : Int32) : ((x.toUInt32 >>> ((4 : Int32) &&& 31).toUInt32).toInt32) % (3 : Int32) = 0 ∨ ((x.toUInt32 >>> ((4 : Int32) &&& 31).toUInt32).toInt32) % (3 : Int32) = 1 ∨ ((x.toUInt32 >>> ((4 : Int32) &&& 31).toUInt32).toInt32) % (3 : Int32) = 2 := by
  have s := c_iushr x 4 4 (by decide) (by decide)
  have r := (c_irem ((x.toUInt32 >>> ((4 : Int32) &&& 31).toUInt32).toInt32) 3 3 rfl).1 (by omega)
  simp only [← Int32.toInt_inj, show (0 : Int32).toInt = 0 from rfl, show (1 : Int32).toInt = 1 from rfl, show (2 : Int32).toInt = 2 from rfl]
  omega
theorem own_off (x : Int32) : (x &&& (3 : Int32)) % (3 : Int32) = 0 ∨ (x &&& (3 : Int32)) % (3 : Int32) = 1 ∨ (x &&& (3 : Int32)) % (3 : Int32) = 2 := by
  have s := c_mask x 3 2 (by decide) (by decide)
  have r := (c_irem (x &&& (3 : Int32)) 3 3 rfl).1 (by omega)
  simp only [← Int32.toInt_inj, show (0 : Int32).toInt = 0 from rfl, show (1 : Int32).toInt = 1 from rfl, show (2 : Int32).toInt = 2 from rfl]
  omega
theorem own_at (y : Int32) : y &&& (3 : Int32) = 0 ∨ y &&& (3 : Int32) = 1 ∨ y &&& (3 : Int32) = 2 ∨ y &&& (3 : Int32) = 3 := by
  have s := c_mask y 3 2 (by decide) (by decide)
  simp only [← Int32.toInt_inj, show (0 : Int32).toInt = 0 from rfl, show (1 : Int32).toInt = 1 from rfl, show (2 : Int32).toInt = 2 from rfl, show (3 : Int32).toInt = 3 from rfl]
  omega
theorem own_uA (w : Int64) : 0 ≤ ((w.toUInt64 >>> ((32 : Int32) &&& 0x3f).toInt64.toUInt64).toInt64).toInt := by
  have d1 := c_lushr w 32 32 (by decide) (by decide)
  omega
theorem own_uB (w : Int64) : 0 ≤ (w &&& (4294967295 : Int64)).toInt := by
  have m := c_maskL w 4294967295 32 (by decide) (by decide)
  omega
/-- the three places -/
def Rot (iA iB iC : Int32) : Prop := (iA = 0 ∧ iB = 1 ∧ iC = 2) ∨ (iA = 1 ∧ iB = 2 ∧ iC = 0) ∨ (iA = 2 ∧ iB = 0 ∧ iC = 1)
theorem own_rotI {r iB iC : Int32} (h : r = 0 ∨ r = 1 ∨ r = 2) (hB : iB = (r + (1 : Int32)) % (3 : Int32)) (hC : iC = (r + (2 : Int32)) % (3 : Int32)) : Rot r iB iC := by
  rcases h with rfl | rfl | rfl
  · exact Or.inl ⟨rfl, by rw [hB]; decide, by rw [hC]; decide⟩
  · exact Or.inr (Or.inl ⟨rfl, by rw [hB]; decide, by rw [hC]; decide⟩)
  · exact Or.inr (Or.inr ⟨rfl, by rw [hB]; decide, by rw [hC]; decide⟩)
theorem own_in3 {a b c : Int32} (R : Rot a b c) : inb 3 a ∧ inb 3 b ∧ inb 3 c := by
  rcases R with ⟨rfl, rfl, rfl⟩ | ⟨rfl, rfl, rfl⟩ | ⟨rfl, rfl, rfl⟩ <;> decide
theorem own_in7 {a b c t : Int32} (R : Rot a b c) (h : t = 0 ∨ t = 1 ∨ t = 2 ∨ t = 3) : inb 7 (t + a) ∧ inb 7 (t + b) ∧ inb 7 (t + c) := by
  rcases R with ⟨rfl, rfl, rfl⟩ | ⟨rfl, rfl, rfl⟩ | ⟨rfl, rfl, rfl⟩ <;> rcases h with rfl | rfl | rfl | rfl <;> decide
theorem own_in4 {q : Int32} (h : q = 0 ∨ q = 1 ∨ q = 2) : inb 4 q ∧ inb 4 (q + (0 : Int32)) ∧ inb 4 (q + (1 : Int32)) := by
  rcases h with rfl | rfl | rfl <;> decide
theorem own_src {a b c x y z : Int32} (R : Rot a b c) : gi (si (si (si [0, 0, 0] a x) b y) c z) a = x ∧ gi (si (si (si [0, 0, 0] a x) b y) c z) b = y ∧ gi (si (si (si [0, 0, 0] a x) b y) c z) c = z := by
  rcases R with ⟨rfl, rfl, rfl⟩ | ⟨rfl, rfl, rfl⟩ | ⟨rfl, rfl, rfl⟩ <;> exact ⟨rfl, rfl, rfl⟩
theorem own_big0 {q : Int32} {f t : Int64} (h : q = 0 ∨ q = 1 ∨ q = 2) : gj (sj [f, f, f, f] q t) (q + (0 : Int32)) = t := by
  rcases h with rfl | rfl | rfl <;> rfl
theorem own_big1 {q : Int32} {f t u : Int64} (h : q = 0 ∨ q = 1 ∨ q = 2) : gj (sj (sj [f, f, f, f] q t) (q + (1 : Int32)) u) (q + (0 : Int32)) = t ∧ gj (sj (sj [f, f, f, f] q t) (q + (1 : Int32)) u) (q + (1 : Int32)) = u := by
  rcases h with rfl | rfl | rfl <;> exact ⟨rfl, rfl⟩
theorem own_fin {a b c t x y z s : Int32} (R : Rot a b c) (h : t = 0 ∨ t = 1 ∨ t = 2 ∨ t = 3) (D : List Int32) (hD : D = si (si (si [s, s, s, s, s, s, s] (t + a) x) (t + b) y) (t + c) z) :
    gi D 0 = f_ex 0 t a b c x y z s ∧ gi D 1 = f_ex 1 t a b c x y z s ∧ gi D 2 = f_ex 2 t a b c x y z s ∧ gi D 3 = f_ex 3 t a b c x y z s ∧ gi D 4 = f_ex 4 t a b c x y z s ∧ gi D 5 = f_ex 5 t a b c x y z s ∧ gi D 6 = f_ex 6 t a b c x y z s := by
  subst hD
  rcases R with ⟨rfl, rfl, rfl⟩ | ⟨rfl, rfl, rfl⟩ | ⟨rfl, rfl, rfl⟩ <;> rcases h with rfl | rfl | rfl | rfl <;> exact ⟨rfl, rfl, rfl, rfl, rfl, rfl, rfl⟩
theorem own_b01 {lA hA lB hB : Int32} (nA : ¬ hA < lA) (nB : ¬ hB < lB) : ¬ (64 : Int32) < ((0 : Int32) + (bt lA hA)) ∧ ¬ (64 : Int32) < (((0 : Int32) + (bt lA hA)) + (bt lB hB)) := by
  obtain ⟨b0, c0, g0, -⟩ := own_bt lA hA nA
  obtain ⟨b1, c1, g1, -⟩ := own_bt lB hB nB
  have s1 := c_iadd 0 (bt lA hA)
  have s2 := c_iadd ((0 : Int32) + (bt lA hA)) (bt lB hB)
  have e0 : (0 : Int32).toInt = 0 := rfl
  have e1 : (64 : Int32).toInt = 64 := rfl
  have r1 := ((0 : Int32) + (bt lA hA)).toInt_lt; have r2 := ((0 : Int32) + (bt lA hA)).le_toInt
  have r3 := (((0 : Int32) + (bt lA hA)) + (bt lB hB)).toInt_lt; have r4 := (((0 : Int32) + (bt lA hA)) + (bt lB hB)).le_toInt
  rw [Int32.lt_iff_toInt_lt, Int32.lt_iff_toInt_lt]
  omega
theorem own_law0 {lA hA vA lB hB vB lC hC vC : Int32} (nA : ¬ hA < lA) (nB : ¬ hB < lB) (nC : ¬ hC < lC) (rA : lA.toInt ≤ vA.toInt ∧ vA.toInt ≤ hA.toInt) (rB : lB.toInt ≤ vB.toInt ∧ vB.toInt ≤ hB.toInt) (rC : lC.toInt ≤ vC.toInt ∧ vC.toInt ≤ hC.toInt)
    (hb : ¬ (64 : Int32) < ((((0 : Int32) + (bt lA hA)) + (bt lB hB)) + (bt lC hC))) (T : Int64) (hT : T = ((((0 : Int64) ||| shl (enc vA lA) 0) ||| shl (enc vB lB) ((0 : Int32) + (bt lA hA))) ||| shl (enc vC lC) (((0 : Int32) + (bt lA hA)) + (bt lB hB)))) :
    unp lA T 0 (msk (bt lA hA)) = vA ∧ unp lB T ((0 : Int32) + (bt lA hA)) (msk (bt lB hB)) = vB ∧ unp lC T (((0 : Int32) + (bt lA hA)) + (bt lB hB)) (msk (bt lC hC)) = vC := by
  obtain ⟨b0, c0, g0, d0⟩ := own_bt lA hA nA
  obtain ⟨b1, c1, g1, d1⟩ := own_bt lB hB nB
  obtain ⟨b2, c2, g2, d2⟩ := own_bt lC hC nC
  have s1 := c_iadd 0 (bt lA hA)
  have s2 := c_iadd ((0 : Int32) + (bt lA hA)) (bt lB hB)
  have s3 := c_iadd (((0 : Int32) + (bt lA hA)) + (bt lB hB)) (bt lC hC)
  have e0 : (0 : Int32).toInt = 0 := rfl
  have e1 : (64 : Int32).toInt = 64 := rfl
  have r1 := ((0 : Int32) + (bt lA hA)).toInt_lt; have r2 := ((0 : Int32) + (bt lA hA)).le_toInt
  have r3 := (((0 : Int32) + (bt lA hA)) + (bt lB hB)).toInt_lt; have r4 := (((0 : Int32) + (bt lA hA)) + (bt lB hB)).le_toInt
  have r5 := ((((0 : Int32) + (bt lA hA)) + (bt lB hB)) + (bt lC hC)).toInt_lt; have r6 := ((((0 : Int32) + (bt lA hA)) + (bt lB hB)) + (bt lC hC)).le_toInt
  rw [Int32.lt_iff_toInt_lt] at hb
  have P := own_one (enc vA lA) (enc vB lB) (enc vC lC) ((0 : Int32) + (bt lA hA)) (((0 : Int32) + (bt lA hA)) + (bt lB hB)) (bt lA hA) (bt lB hB) (bt lC hC) b0 b1 b2 (own_enc lA hA vA b0 rA d0) (own_enc lB hB vB b1 rB d1) (own_enc lC hC vC b2 rC d2) (by omega) c0 c1 c2 (by omega) (by omega) g0 g1 g2
  rw [← hT] at P
  exact ⟨own_back _ _ _ _ _ P.1, own_back _ _ _ _ _ P.2.1, own_back _ _ _ _ _ P.2.2⟩
theorem own_law1 {lA hA vA lB hB vB lC hC vC : Int32} (nA : ¬ hA < lA) (nB : ¬ hB < lB) (nC : ¬ hC < lC) (rA : lA.toInt ≤ vA.toInt ∧ vA.toInt ≤ hA.toInt) (rB : lB.toInt ≤ vB.toInt ∧ vB.toInt ≤ hB.toInt) (rC : lC.toInt ≤ vC.toInt ∧ vC.toInt ≤ hC.toInt)
    (T U : Int64) (hT : T = (((0 : Int64) ||| shl (enc vA lA) 0) ||| shl (enc vB lB) ((0 : Int32) + (bt lA hA)))) (hU : U = ((0 : Int64) ||| shl (enc vC lC) 0)) :
    unp lA T 0 (msk (bt lA hA)) = vA ∧ unp lB T ((0 : Int32) + (bt lA hA)) (msk (bt lB hB)) = vB ∧ unp lC U 0 (msk (bt lC hC)) = vC := by
  obtain ⟨b0, c0, g0, d0⟩ := own_bt lA hA nA
  obtain ⟨b1, c1, g1, d1⟩ := own_bt lB hB nB
  obtain ⟨b2, c2, g2, d2⟩ := own_bt lC hC nC
  have s1 := c_iadd 0 (bt lA hA)
  have e0 : (0 : Int32).toInt = 0 := rfl
  have r1 := ((0 : Int32) + (bt lA hA)).toInt_lt; have r2 := ((0 : Int32) + (bt lA hA)).le_toInt
  have P := own_two (enc vA lA) (enc vB lB) (enc vC lC) ((0 : Int32) + (bt lA hA)) (bt lA hA) (bt lB hB) (bt lC hC) b0 b1 b2 (own_enc lA hA vA b0 rA d0) (own_enc lB hB vB b1 rB d1) (own_enc lC hC vC b2 rC d2) c0 c1 c2 (by omega) g0 g1 g2
  rw [← hT, ← hU] at P
  exact ⟨own_back _ _ _ _ _ P.1, own_back _ _ _ _ _ P.2.1, own_back _ _ _ _ _ P.2.2⟩
theorem own_l3 (a b c : Int32) : [a, b, c].length = 3 := rfl
theorem own_l4 (a b c d : Int64) : [a, b, c, d].length = 4 := rfl
theorem own_l7 (a b c d e f g : Int32) : [a, b, c, d, e, f, g].length = 7 := rfl
def ns_ArrayList : List (String × String × String) := [("java/util/AbstractList", "modCount", "I"), ("java/util/ArrayList", "elementData", "[Ljava/lang/Object;"), ("java/util/ArrayList", "size", "I")]
theorem lay_ns_ArrayList {Z : State} {a0 : Array Value} (hw : ∀ d ∈ tables_1, d.before a0 Z = true) : ∀ x ∈ ns_ArrayList, Laid Z a0 "java/util/ArrayList" x.1 x.2.1 x.2.2 := by
  intro x hx
  simp only [ns_ArrayList, List.mem_cons, List.not_mem_nil, or_false] at hx
  rcases hx with rfl | rfl | rfl
  · exact Or.inl (hw _ (List.mem_of_getElem? (i := 31) rfl))
  · exact Or.inl (hw _ (List.mem_of_getElem? (i := 34) rfl))
  · exact Or.inl (hw _ (List.mem_of_getElem? (i := 81) rfl))
def ns_Variable : List (String × String × String) := [("com/example/inya/inya/Variable", "name", "Ljava/lang/String;"), ("com/example/inya/inya/Variable", "role", "Lcom/example/inya/inya/Role;"), ("com/example/inya/inya/Variable", "domain", "Lcom/example/inya/inya/Domain;"), ("com/example/inya/inya/Variable", "index", "I"), ("com/example/inya/inya/Variable", "position", "Lcom/example/inya/inya/Position;")]
theorem lay_ns_Variable {Z : State} {a0 : Array Value} (hw : ∀ d ∈ tables_1, d.before a0 Z = true) : ∀ x ∈ ns_Variable, Laid Z a0 "com/example/inya/inya/Variable" x.1 x.2.1 x.2.2 := by
  intro x hx
  simp only [ns_Variable, List.mem_cons, List.not_mem_nil, or_false] at hx
  rcases hx with rfl | rfl | rfl | rfl | rfl
  · exact Or.inr (hw _ (List.mem_of_getElem? (i := 64) rfl))
  · exact Or.inr (hw _ (List.mem_of_getElem? (i := 66) rfl))
  · exact Or.inr (hw _ (List.mem_of_getElem? (i := 68) rfl))
  · exact Or.inr (hw _ (List.mem_of_getElem? (i := 70) rfl))
  · exact Or.inr (hw _ (List.mem_of_getElem? (i := 72) rfl))
def ns_Domain : List (String × String × String) := [("com/example/inya/inya/Domain", "bool", "Z"), ("com/example/inya/inya/Domain", "lo", "I"), ("com/example/inya/inya/Domain", "hi", "I")]
theorem lay_ns_Domain {Z : State} {a0 : Array Value} (hw : ∀ d ∈ tables_1, d.before a0 Z = true) : ∀ x ∈ ns_Domain, Laid Z a0 "com/example/inya/inya/Domain" x.1 x.2.1 x.2.2 := by
  intro x hx
  simp only [ns_Domain, List.mem_cons, List.not_mem_nil, or_false] at hx
  rcases hx with rfl | rfl | rfl
  · exact Or.inr (hw _ (List.mem_of_getElem? (i := 49) rfl))
  · exact Or.inr (hw _ (List.mem_of_getElem? (i := 51) rfl))
  · exact Or.inr (hw _ (List.mem_of_getElem? (i := 53) rfl))
def ns_StateLayout : List (String × String × String) := [("com/example/inya/inya/StateLayout", "index", "[I"), ("com/example/inya/inya/StateLayout", "word", "[I"), ("com/example/inya/inya/StateLayout", "shift", "[I"), ("com/example/inya/inya/StateLayout", "mask", "[J"), ("com/example/inya/inya/StateLayout", "lo", "[I"), ("com/example/inya/inya/StateLayout", "words", "I")]
theorem lay_ns_StateLayout {Z : State} {a0 : Array Value} (hw : ∀ d ∈ tables_1, d.before a0 Z = true) : ∀ x ∈ ns_StateLayout, Laid Z a0 "com/example/inya/inya/StateLayout" x.1 x.2.1 x.2.2 := by
  intro x hx
  simp only [ns_StateLayout, List.mem_cons, List.not_mem_nil, or_false] at hx
  rcases hx with rfl | rfl | rfl | rfl | rfl | rfl
  · exact Or.inr (hw _ (List.mem_of_getElem? (i := 122) rfl))
  · exact Or.inr (hw _ (List.mem_of_getElem? (i := 124) rfl))
  · exact Or.inr (hw _ (List.mem_of_getElem? (i := 126) rfl))
  · exact Or.inr (hw _ (List.mem_of_getElem? (i := 129) rfl))
  · exact Or.inr (hw _ (List.mem_of_getElem? (i := 131) rfl))
  · exact Or.inr (hw _ (List.mem_of_getElem? (i := 185) rfl))
abbrev oL (a : Addr) (v : List Value) : Addr × OObj := (a, Sum.inl ("java/util/ArrayList", ns_ArrayList, v))
abbrev oV (a : Addr) (v : List Value) : Addr × OObj := (a, Sum.inl ("com/example/inya/inya/Variable", ns_Variable, v))
abbrev oD (a : Addr) (v : List Value) : Addr × OObj := (a, Sum.inl ("com/example/inya/inya/Domain", ns_Domain, v))
abbrev oY (a : Addr) (v : List Value) : Addr × OObj := (a, Sum.inl ("com/example/inya/inya/StateLayout", ns_StateLayout, v))
abbrev oO0 (a : Addr) : Addr × OObj := (a, Sum.inr (.object "java/lang/Object", [.null, .null, .null, .null, .null, .null, .null, .null, .null, .null]))
abbrev oO1 (a x0 : Addr) : Addr × OObj := (a, Sum.inr (.object "java/lang/Object", [.ref x0, .null, .null, .null, .null, .null, .null, .null, .null, .null]))
abbrev oO2 (a x0 x1 : Addr) : Addr × OObj := (a, Sum.inr (.object "java/lang/Object", [.ref x0, .ref x1, .null, .null, .null, .null, .null, .null, .null, .null]))
abbrev oO3 (a x0 x1 x2 : Addr) : Addr × OObj := (a, Sum.inr (.object "java/lang/Object", [.ref x0, .ref x1, .ref x2, .null, .null, .null, .null, .null, .null, .null]))
abbrev oA (a : Addr) (v : List Int32) : Addr × OObj := (a, Sum.inr (.int, v.map Value.int))
abbrev oB (a : Addr) (v : List Int64) : Addr × OObj := (a, Sum.inr (.long, v.map Value.long))
abbrev oI (a : Addr) (v : List Int32) : Addr × OObj := (a, Sum.inr (.int, v.map Value.int))
abbrev oK (a : Addr) (v : List Int64) : Addr × OObj := (a, Sum.inr (.long, v.map Value.long))
theorem ow {Z : State} {a0 : Array Value} (hw : ∀ d ∈ tables_1, d.before a0 Z = true) (i : Nat) {d : Jvm.Cond} (h : tables_1[i]? = some d) : d.before a0 Z = true := hw d (List.mem_of_getElem? h)
abbrev iv (x : Int32) : Slot := .val (.int x)
abbrev jv (x : Int64) : Slot := .val (.long x)
abbrev rv (x : Addr) : Slot := .val (.ref x)
abbrev uv : Slot := .unset
abbrev sv : Slot := .second
theorem og {p : Program} {e : Env} {below : List Frame} {P : State → Outcome → Prop} {U U' : State} (k : ∀ t, Steps p.tables e below U' t → Steps p.tables e below U t) (g : OGets p e below P U') : OGets p e below P U := OGets.step k g
theorem nb {n m : Nat} (h : Nat.ble n m = true) : n ≤ m := Nat.le_of_ble_eq_true h
theorem pn_4 : plainName "java/lang/Record" = true := by first | (simp [plainName, overriddenIn]; done) | decide +kernel
theorem dj30m1_0 : decode jdk_30_method_1_code 0 = .ok (.aload_n 0, 1) := by decide +kernel
theorem dj30m1_1 : decode jdk_30_method_1_code 1 = .ok (.invokespecial 1, 3) := by decide +kernel
theorem dj30m1_4 : decode jdk_30_method_1_code 4 = .ok (.return_, 1) := by decide +kernel
theorem ef_rec (m : MethodId) (x0 : Addr) : entryFrame m #[(.ref x0)] 1 = mkF m 0 #[.val (.ref x0)] [] := by first | (simp [entryFrame, mkF, argsToLocals, Value.category]; done) | rfl
def Q_rec (Z : State) (ar : Addr) (h0 : Heap) (n0 : Nat) (v : Option Value) (h : Heap) (L : List Loc) : Prop := v = none ∧ L = [] ∧ h = h0
set_option maxRecDepth 65536 in
set_option maxHeartbeats 40000000 in
theorem rm_rec (l : Launch) (Z : State) (a0 : Array Value) (hw : ∀ d ∈ tables_1, d.before a0 Z = true) (ws : List Jvm.Cond) (ar : Addr) (h0 : Heap) (n0 : Nat) (Z0 : n0 ≤ h0.size) :
    MetFree l (⟨"java/lang/Record", "<init>", "()V"⟩ : MethodName) (head1 (Jvm.Cond.code (⟨"java/lang/Record", "<init>", "()V"⟩ : MethodName) jdk_30_method_1_code 1 none :: ws) ({ frames := 1, cells := 0, slots := 0, locals := 12 } : Room)) (fun a_ U => a_ = #[(.ref ar)] ∧ Z.Warmed39 U.vm ∧ U.heap = h0) (fun _ _ _ _ _ => True) (fun _ U o U' => ∃ v L, o = .returned v ∧ Q_rec Z ar h0 n0 v U'.heap L ∧ FrameEnd U o U' L ({ frames := 1, cells := 0, slots := 0, locals := 12 } : Room).cells ({ frames := 1, cells := 0, slots := 0, locals := 12 } : Room).slots) := by
  refine MetFree.of_bodySF (plainFor_of_name pn_4) hisR ?_
  intro p e s m args below meth c s₁ Bd hml0 hP hK
  obtain ⟨rfl, hZ, hh⟩ := hP
  have hx := Bd.exec
  have hby := Bd.bytes
  have hlk : meth.locks = false := Bd.notSynchronized
  have hml : c.maxLocals = 1 := hml0
  have hown : s.vm.findClass "java/lang/Record" = some m.cls := findClass_of_methodNamed Bd.named
  have hnm := (name_of_methodNamed Bd.named Bd.method).1
  have X0 : Stand p l e ({ frames := 1, cells := 0, slots := 0, locals := 12 } : Room) s m #[(.ref ar)] below meth c s₁ [] 0 0 := Stand.of_body Bd
  have e0 : s₁.heap = h0 := by rw [← hh, Bd.state]; rfl
  have N0 := Fr.nil n0
  show OGets p e below (OLeaves s (Q_rec Z ar h0 n0 ) ({ frames := 1, cells := 0, slots := 0, locals := 12 } : Room).cells ({ frames := 1, cells := 0, slots := 0, locals := 12 } : Room).slots) _
  refine OGets.enter (ef_rec m ar) ?_
  show OGets p e below _ (s₁.setTop (mkF m 0 #[rv ar] []))
  refine og (fun _ => XS.aloadN X0.here hx rfl (hb hby dj30m1_0) rfl rfl) ?_
  obtain ⟨T72, X72, e72, st72⟩ := initO X0 hx hZ hown (ow hw 62 rfl) (ow hw 28 rfl) (ow hw 29 rfl) e0 (g := (mkF m 1 #[rv ar] [(.ref ar)])) rfl (by rw [hml]; rfl) rfl (hb hby dj30m1_1) (by decide) (W := 0) (by show 2 * 0 + _ ≤ _; exact Nat.le_of_eq rfl) (by decide)
  refine og st72 ?_
  refine OGets.retV X72 hx hlk Bd.returns (hb hby dj30m1_4) (nb rfl) (nb rfl) ?_
  exact ⟨rfl, rfl, e72⟩
theorem pn_5 : plainName "java/util/AbstractCollection" = true := by first | (simp [plainName, overriddenIn]; done) | decide +kernel
theorem dj22m1_0 : decode jdk_22_method_1_code 0 = .ok (.aload_n 0, 1) := by decide +kernel
theorem dj22m1_1 : decode jdk_22_method_1_code 1 = .ok (.invokespecial 1, 3) := by decide +kernel
theorem dj22m1_4 : decode jdk_22_method_1_code 4 = .ok (.return_, 1) := by decide +kernel
theorem ef_aci (m : MethodId) (x0 : Addr) : entryFrame m #[(.ref x0)] 1 = mkF m 0 #[.val (.ref x0)] [] := by first | (simp [entryFrame, mkF, argsToLocals, Value.category]; done) | rfl
def Q_aci (Z : State) (ar : Addr) (h0 : Heap) (n0 : Nat) (v : Option Value) (h : Heap) (L : List Loc) : Prop := v = none ∧ L = [] ∧ h = h0
set_option maxRecDepth 65536 in
set_option maxHeartbeats 40000000 in
theorem rm_aci (l : Launch) (Z : State) (a0 : Array Value) (hw : ∀ d ∈ tables_1, d.before a0 Z = true) (ws : List Jvm.Cond) (ar : Addr) (h0 : Heap) (n0 : Nat) (Z0 : n0 ≤ h0.size) :
    MetFree l (⟨"java/util/AbstractCollection", "<init>", "()V"⟩ : MethodName) (head1 (Jvm.Cond.code (⟨"java/util/AbstractCollection", "<init>", "()V"⟩ : MethodName) jdk_22_method_1_code 1 none :: ws) ({ frames := 1, cells := 0, slots := 0, locals := 12 } : Room)) (fun a_ U => a_ = #[(.ref ar)] ∧ Z.Warmed39 U.vm ∧ U.heap = h0) (fun _ _ _ _ _ => True) (fun _ U o U' => ∃ v L, o = .returned v ∧ Q_aci Z ar h0 n0 v U'.heap L ∧ FrameEnd U o U' L ({ frames := 1, cells := 0, slots := 0, locals := 12 } : Room).cells ({ frames := 1, cells := 0, slots := 0, locals := 12 } : Room).slots) := by
  refine MetFree.of_bodySF (plainFor_of_name pn_5) hisR ?_
  intro p e s m args below meth c s₁ Bd hml0 hP hK
  obtain ⟨rfl, hZ, hh⟩ := hP
  have hx := Bd.exec
  have hby := Bd.bytes
  have hlk : meth.locks = false := Bd.notSynchronized
  have hml : c.maxLocals = 1 := hml0
  have hown : s.vm.findClass "java/util/AbstractCollection" = some m.cls := findClass_of_methodNamed Bd.named
  have hnm := (name_of_methodNamed Bd.named Bd.method).1
  have X0 : Stand p l e ({ frames := 1, cells := 0, slots := 0, locals := 12 } : Room) s m #[(.ref ar)] below meth c s₁ [] 0 0 := Stand.of_body Bd
  have e0 : s₁.heap = h0 := by rw [← hh, Bd.state]; rfl
  have N0 := Fr.nil n0
  show OGets p e below (OLeaves s (Q_aci Z ar h0 n0 ) ({ frames := 1, cells := 0, slots := 0, locals := 12 } : Room).cells ({ frames := 1, cells := 0, slots := 0, locals := 12 } : Room).slots) _
  refine OGets.enter (ef_aci m ar) ?_
  show OGets p e below _ (s₁.setTop (mkF m 0 #[rv ar] []))
  refine og (fun _ => XS.aloadN X0.here hx rfl (hb hby dj22m1_0) rfl rfl) ?_
  obtain ⟨T73, X73, e73, st73⟩ := initO X0 hx hZ hown (ow hw 27 rfl) (ow hw 28 rfl) (ow hw 29 rfl) e0 (g := (mkF m 1 #[rv ar] [(.ref ar)])) rfl (by rw [hml]; rfl) rfl (hb hby dj22m1_1) (by decide) (W := 0) (by show 2 * 0 + _ ≤ _; exact Nat.le_of_eq rfl) (by decide)
  refine og st73 ?_
  refine OGets.retV X73 hx hlk Bd.returns (hb hby dj22m1_4) (nb rfl) (nb rfl) ?_
  exact ⟨rfl, rfl, e73⟩
theorem pn_6 : plainName "java/util/AbstractList" = true := by first | (simp [plainName, overriddenIn]; done) | decide +kernel
theorem dj39m1_0 : decode jdk_39_method_1_code 0 = .ok (.aload_n 0, 1) := by decide +kernel
theorem dj39m1_1 : decode jdk_39_method_1_code 1 = .ok (.invokespecial 1, 3) := by decide +kernel
theorem pd_7 : parseMethodDescriptor "()V" = some ⟨[], none⟩ := by decide +kernel
theorem dj39m1_4 : decode jdk_39_method_1_code 4 = .ok (.aload_n 0, 1) := by decide +kernel
theorem dj39m1_5 : decode jdk_39_method_1_code 5 = .ok (.iconst 0, 1) := by decide +kernel
theorem dj39m1_6 : decode jdk_39_method_1_code 6 = .ok (.putfield 7, 3) := by decide +kernel
theorem dj39m1_9 : decode jdk_39_method_1_code 9 = .ok (.return_, 1) := by decide +kernel
theorem ef_ali (m : MethodId) (x0 : Addr) : entryFrame m #[(.ref x0)] 1 = mkF m 0 #[.val (.ref x0)] [] := by first | (simp [entryFrame, mkF, argsToLocals, Value.category]; done) | rfl
def Q_ali (Z : State) (a : Addr) (h0 : Heap) (n0 : Nat) (F : List (Addr × OObj)) (v : Option Value) (h : Heap) (L : List Loc) : Prop := v = none ∧ Fr n0 L ∧ OView Z n0 h (oL a [(.int (0 : Int32)), .null, (.int (0 : Int32))] :: F) ∧ Old Z n0 h
set_option maxRecDepth 65536 in
set_option maxHeartbeats 40000000 in
theorem rm_ali (l : Launch) (Z : State) (a0 : Array Value) (hw : ∀ d ∈ tables_1, d.before a0 Z = true) (ws : List Jvm.Cond) (a : Addr) (h0 : Heap) (n0 : Nat) (F : List (Addr × OObj)) (Z0 : n0 ≤ h0.size) (V0 : OView Z n0 h0 (oL a [(.int 0), .null, (.int 0)] :: F)) (O0 : Old Z n0 h0) :
    MetFree l (⟨"java/util/AbstractList", "<init>", "()V"⟩ : MethodName) (head1 (Jvm.Cond.code (⟨"java/util/AbstractList", "<init>", "()V"⟩ : MethodName) jdk_39_method_1_code 1 none :: ws) ({ frames := 2, cells := 0, slots := 0, locals := 24 } : Room)) (fun a_ U => a_ = #[(.ref a)] ∧ Z.Warmed39 U.vm ∧ U.heap = h0) (fun _ _ _ _ _ => True) (fun _ U o U' => ∃ v L, o = .returned v ∧ Q_ali Z a h0 n0 F v U'.heap L ∧ FrameEnd U o U' L ({ frames := 2, cells := 0, slots := 0, locals := 24 } : Room).cells ({ frames := 2, cells := 0, slots := 0, locals := 24 } : Room).slots) := by
  refine MetFree.of_bodySF (plainFor_of_name pn_6) hisR ?_
  intro p e s m args below meth c s₁ Bd hml0 hP hK
  obtain ⟨rfl, hZ, hh⟩ := hP
  have hx := Bd.exec
  have hby := Bd.bytes
  have hlk : meth.locks = false := Bd.notSynchronized
  have hml : c.maxLocals = 1 := hml0
  have hown : s.vm.findClass "java/util/AbstractList" = some m.cls := findClass_of_methodNamed Bd.named
  have hnm := (name_of_methodNamed Bd.named Bd.method).1
  have X0 : Stand p l e ({ frames := 2, cells := 0, slots := 0, locals := 24 } : Room) s m #[(.ref a)] below meth c s₁ [] 0 0 := Stand.of_body Bd
  have e0 : s₁.heap = h0 := by rw [← hh, Bd.state]; rfl
  have N0 := Fr.nil n0
  show OGets p e below (OLeaves s (Q_ali Z a h0 n0 F ) ({ frames := 2, cells := 0, slots := 0, locals := 24 } : Room).cells ({ frames := 2, cells := 0, slots := 0, locals := 24 } : Room).slots) _
  refine OGets.enter (ef_ali m a) ?_
  show OGets p e below _ (s₁.setTop (mkF m 0 #[rv a] []))
  refine og (fun _ => XS.aloadN X0.here hx rfl (hb hby dj39m1_0) rfl rfl) ?_
  obtain ⟨_, _, ⟨T74, L74, k74, n74⟩, -, X74, ⟨Lc74, hQ74, l74, y74, z74⟩, st74⟩ := X0.specialBack hx (y := (⟨"java/util/AbstractCollection", "<init>", "()V"⟩ : MethodName)) rfl hown (mvT hZ (ow hw 21 rfl)) (mvT hZ (ow hw 22 rfl)) (mvT hZ (ow hw 26 rfl)) (by decide) (backOf (W := 0) (rm_aci l Z a0 hw [] a h0 n0  Z0 ) hZ (ow hw 26 rfl) (ow hw 25 rfl) (by decide) (by decide)) (g := (mkF m 1 #[rv a] [(.ref a)])) rfl (by rw [hml]; rfl) (Steps.refl _) (a := a) (argsL := []) (rest := []) (lenOf pd_7 rfl) rfl (by show 2 * 0 + _ ≤ _; exact Nat.le_of_eq rfl) (hb hby dj39m1_1) (fun _ _ => ⟨rfl, e0, nb rfl, nb rfl⟩)
  dsimp only [Pt.U, Pt.locs, Pt.cells, Pt.slots] at X74 l74 y74 z74 st74 hQ74
  rw [l74, y74, z74] at X74
  obtain ⟨rfl, rfl, e74⟩ := hQ74
  have N74 := Fr.app N0 (Fr.nil n0)
  refine OGets.after st74 ?_
  refine og (fun _ => XS.aloadN X74.here hx rfl (hb hby dj39m1_4) rfl rfl) ?_
  refine og (fun _ => XS.iconst X74.here hx rfl (hb hby dj39m1_5)) ?_
  obtain ⟨T75, h75, X75, e75, W75, st75⟩ := putF X74 hx hZ hown (host := "") (Or.inl (ow hw 30 rfl)) Via.refl e74 (V0.fld 0 rfl 0 rfl rfl) (V0.exa 0 rfl) (Or.inl (ow hw 31 rfl)) (ow hw 10 rfl) (ty := .int) (by decide) rfl rfl (g := (mkF m 6 #[rv a] [(.int 0), (.ref a)])) rfl rfl (hb hby dj39m1_6)
  have V75 : OView Z n0 h75 (oL a [(.int 0), .null, (.int 0)] :: F) := V0.putF 0 rfl 0 rfl W75
  have N75 := Fr.snoc X75 N74 (V0.old 0 rfl)
  have Z75 : n0 ≤ h75.size := by rw [W75.size]; exact Z0
  have O75 := O0.wr W75 (V0.old 0 rfl)
  refine og st75 ?_
  refine OGets.retV X75 hx hlk Bd.returns (hb hby dj39m1_9) (nb rfl) (nb rfl) ?_
  rw [e75]
  exact ⟨rfl, N75, V75, O75⟩
theorem pn_8 : plainName "java/util/ArrayList" = true := by first | (simp [plainName, overriddenIn]; done) | decide +kernel
theorem dj38m2_0 : decode jdk_38_method_2_code 0 = .ok (.aload_n 0, 1) := by decide +kernel
theorem dj38m2_1 : decode jdk_38_method_2_code 1 = .ok (.invokespecial 1, 3) := by decide +kernel
theorem dj38m2_4 : decode jdk_38_method_2_code 4 = .ok (.aload_n 0, 1) := by decide +kernel
theorem dj38m2_5 : decode jdk_38_method_2_code 5 = .ok (.getstatic 39, 3) := by decide +kernel
theorem dj38m2_8 : decode jdk_38_method_2_code 8 = .ok (.putfield 9, 3) := by decide +kernel
theorem dj38m2_11 : decode jdk_38_method_2_code 11 = .ok (.return_, 1) := by decide +kernel
theorem ef_ain (m : MethodId) (x0 : Addr) : entryFrame m #[(.ref x0)] 1 = mkF m 0 #[.val (.ref x0)] [] := by first | (simp [entryFrame, mkF, argsToLocals, Value.category]; done) | rfl
def Q_ain (Z : State) (a : Addr) (dS : Addr) (h0 : Heap) (n0 : Nat) (F : List (Addr × OObj)) (v : Option Value) (h : Heap) (L : List Loc) : Prop := v = none ∧ Fr n0 L ∧ OView Z n0 h (oL a [(.int (0 : Int32)), (.ref dS), (.int (0 : Int32))] :: F) ∧ Old Z n0 h
set_option maxRecDepth 65536 in
set_option maxHeartbeats 40000000 in
theorem rm_ain (l : Launch) (Z : State) (a0 : Array Value) (hw : ∀ d ∈ tables_1, d.before a0 Z = true) (ws : List Jvm.Cond) (a : Addr) (dS : Addr) (h0 : Heap) (n0 : Nat) (F : List (Addr × OObj)) (Z0 : n0 ≤ h0.size) (S0 : Sta Z Z.heap "java/util/ArrayList" "DEFAULTCAPACITY_EMPTY_ELEMENTDATA" "[Ljava/lang/Object;" (.ref dS)) (V0 : OView Z n0 h0 (oL a [(.int 0), .null, (.int 0)] :: F)) (O0 : Old Z n0 h0) :
    MetFree l (⟨"java/util/ArrayList", "<init>", "()V"⟩ : MethodName) (head1 (Jvm.Cond.code (⟨"java/util/ArrayList", "<init>", "()V"⟩ : MethodName) jdk_38_method_2_code 1 none :: ws) ({ frames := 3, cells := 0, slots := 0, locals := 36 } : Room)) (fun a_ U => a_ = #[(.ref a)] ∧ Z.Warmed39 U.vm ∧ U.heap = h0) (fun _ _ _ _ _ => True) (fun _ U o U' => ∃ v L, o = .returned v ∧ Q_ain Z a dS h0 n0 F v U'.heap L ∧ FrameEnd U o U' L ({ frames := 3, cells := 0, slots := 0, locals := 36 } : Room).cells ({ frames := 3, cells := 0, slots := 0, locals := 36 } : Room).slots) := by
  refine MetFree.of_bodySF (plainFor_of_name pn_8) hisR ?_
  intro p e s m args below meth c s₁ Bd hml0 hP hK
  obtain ⟨rfl, hZ, hh⟩ := hP
  have hx := Bd.exec
  have hby := Bd.bytes
  have hlk : meth.locks = false := Bd.notSynchronized
  have hml : c.maxLocals = 1 := hml0
  have hown : s.vm.findClass "java/util/ArrayList" = some m.cls := findClass_of_methodNamed Bd.named
  have hnm := (name_of_methodNamed Bd.named Bd.method).1
  have X0 : Stand p l e ({ frames := 3, cells := 0, slots := 0, locals := 36 } : Room) s m #[(.ref a)] below meth c s₁ [] 0 0 := Stand.of_body Bd
  have e0 : s₁.heap = h0 := by rw [← hh, Bd.state]; rfl
  have N0 := Fr.nil n0
  show OGets p e below (OLeaves s (Q_ain Z a dS h0 n0 F ) ({ frames := 3, cells := 0, slots := 0, locals := 36 } : Room).cells ({ frames := 3, cells := 0, slots := 0, locals := 36 } : Room).slots) _
  refine OGets.enter (ef_ain m a) ?_
  show OGets p e below _ (s₁.setTop (mkF m 0 #[rv a] []))
  refine og (fun _ => XS.aloadN X0.here hx rfl (hb hby dj38m2_0) rfl rfl) ?_
  obtain ⟨_, _, ⟨T76, L76, k76, n76⟩, -, X76, ⟨Lc76, hQ76, l76, y76, z76⟩, st76⟩ := X0.specialBack hx (y := (⟨"java/util/AbstractList", "<init>", "()V"⟩ : MethodName)) rfl hown (mvT hZ (ow hw 15 rfl)) (mvT hZ (ow hw 16 rfl)) (mvT hZ (ow hw 20 rfl)) (by decide) (backOf (W := 0) (rm_ali l Z a0 hw [] a h0 n0 _ Z0  V0 O0) hZ (ow hw 20 rfl) (ow hw 19 rfl) (by decide) (by decide)) (g := (mkF m 1 #[rv a] [(.ref a)])) rfl (by rw [hml]; rfl) (Steps.refl _) (a := a) (argsL := []) (rest := []) (lenOf pd_7 rfl) rfl (by show 2 * 0 + _ ≤ _; exact Nat.le_of_eq rfl) (hb hby dj38m2_1) (fun _ _ => ⟨rfl, e0, nb rfl, nb rfl⟩)
  dsimp only [Pt.U, Pt.locs, Pt.cells, Pt.slots] at X76 l76 y76 z76 st76 hQ76
  rw [l76, y76, z76] at X76
  obtain ⟨rfl, N76q, V76, O76q⟩ := hQ76
  have N76 := Fr.app N0 N76q
  have V76v : OView Z n0 T76.heap (oL a [(.int 0), .null, (.int 0)] :: F) := V76
  have Z76 : n0 ≤ T76.heap.size := V76v.big 0 rfl
  refine OGets.after st76 ?_
  refine og (fun _ => XS.aloadN X76.here hx rfl (hb hby dj38m2_4) rfl rfl) ?_
  obtain ⟨T77, X77, e77, st77⟩ := getS2 X76 hx hZ hown (host := "") (Or.inl (ow hw 32 rfl)) Via.refl rfl (S0.ext O76q.2) (g := (mkF m 5 #[rv a] [(.ref a)])) rfl (hb hby dj38m2_5)
  refine og st77 ?_
  obtain ⟨T78, h78, X78, e78, W78, st78⟩ := putF X77 hx hZ hown (host := "") (Or.inl (ow hw 33 rfl)) Via.refl e77 (V76v.fld 0 rfl 1 rfl rfl) (V76v.exa 0 rfl) (Or.inl (ow hw 34 rfl)) (ow hw 10 rfl) (ty := (.array (.object "java/lang/Object"))) (by decide) rfl rfl (g := (mkF m 8 #[rv a] [(.ref dS), (.ref a)])) rfl rfl (hb hby dj38m2_8)
  have V78 : OView Z n0 h78 (oL a [(.int 0), (.ref dS), (.int 0)] :: F) := V76v.putF 0 rfl 1 rfl W78
  have N78 := Fr.snoc X78 N76 (V76v.old 0 rfl)
  have Z78 : n0 ≤ h78.size := by rw [W78.size]; exact Z76
  have O78 := O76q.wr W78 (V76v.old 0 rfl)
  refine og st78 ?_
  refine OGets.retV X78 hx hlk Bd.returns (hb hby dj38m2_11) (nb rfl) (nb rfl) ?_
  rw [e78]
  exact ⟨rfl, N78, V78, O78⟩
theorem pn_9 : plainName "com/example/inya/inya/Domain" = true := by first | (simp [plainName, overriddenIn]; done) | decide +kernel
theorem d21m1_0 : decode prog_21_method_1_code 0 = .ok (.aload_n 0, 1) := by decide +kernel
theorem d21m1_1 : decode prog_21_method_1_code 1 = .ok (.invokespecial 1, 3) := by decide +kernel
theorem d21m1_4 : decode prog_21_method_1_code 4 = .ok (.aload_n 0, 1) := by decide +kernel
theorem d21m1_5 : decode prog_21_method_1_code 5 = .ok (.iload_n 1, 1) := by decide +kernel
theorem d21m1_6 : decode prog_21_method_1_code 6 = .ok (.putfield 7, 3) := by decide +kernel
theorem d21m1_9 : decode prog_21_method_1_code 9 = .ok (.aload_n 0, 1) := by decide +kernel
theorem d21m1_10 : decode prog_21_method_1_code 10 = .ok (.iload_n 2, 1) := by decide +kernel
theorem d21m1_11 : decode prog_21_method_1_code 11 = .ok (.putfield 13, 3) := by decide +kernel
theorem d21m1_14 : decode prog_21_method_1_code 14 = .ok (.aload_n 0, 1) := by decide +kernel
theorem d21m1_15 : decode prog_21_method_1_code 15 = .ok (.iload_n 3, 1) := by decide +kernel
theorem d21m1_16 : decode prog_21_method_1_code 16 = .ok (.putfield 17, 3) := by decide +kernel
theorem d21m1_19 : decode prog_21_method_1_code 19 = .ok (.return_, 1) := by decide +kernel
theorem ef_din (m : MethodId) (x0 : Addr) (x1 : Int32) (x2 : Int32) (x3 : Int32) : entryFrame m #[(.ref x0), (.int x1), (.int x2), (.int x3)] 4 = mkF m 0 #[.val (.ref x0), .val (.int x1), .val (.int x2), .val (.int x3)] [] := by first | (simp [entryFrame, mkF, argsToLocals, Value.category]; done) | rfl
def Q_din (Z : State) (ad : Addr) (lo : Int32) (hi : Int32) (h0 : Heap) (n0 : Nat) (F : List (Addr × OObj)) (v : Option Value) (h : Heap) (L : List Loc) : Prop := v = none ∧ Fr n0 L ∧ OView Z n0 h (oD ad [(.int (0 : Int32)), (.int lo), (.int hi)] :: F) ∧ Old Z n0 h
set_option maxRecDepth 65536 in
set_option maxHeartbeats 40000000 in
theorem rm_din (l : Launch) (Z : State) (a0 : Array Value) (hw : ∀ d ∈ tables_1, d.before a0 Z = true) (ws : List Jvm.Cond) (ad : Addr) (lo : Int32) (hi : Int32) (h0 : Heap) (n0 : Nat) (F : List (Addr × OObj)) (Z0 : n0 ≤ h0.size) (V0 : OView Z n0 h0 (oD ad [(.int 0), (.int 0), (.int 0)] :: F)) (O0 : Old Z n0 h0) :
    MetFree l (⟨"com/example/inya/inya/Domain", "<init>", "(ZII)V"⟩ : MethodName) (head1 (Jvm.Cond.code (⟨"com/example/inya/inya/Domain", "<init>", "(ZII)V"⟩ : MethodName) prog_21_method_1_code 4 none :: ws) ({ frames := 1, cells := 0, slots := 0, locals := 12 } : Room)) (fun a_ U => a_ = #[(.ref ad), (.int 0), (.int lo), (.int hi)] ∧ Z.Warmed39 U.vm ∧ U.heap = h0) (fun _ _ _ _ _ => True) (fun _ U o U' => ∃ v L, o = .returned v ∧ Q_din Z ad lo hi h0 n0 F v U'.heap L ∧ FrameEnd U o U' L ({ frames := 1, cells := 0, slots := 0, locals := 12 } : Room).cells ({ frames := 1, cells := 0, slots := 0, locals := 12 } : Room).slots) := by
  refine MetFree.of_bodySF (plainFor_of_name pn_9) hisR ?_
  intro p e s m args below meth c s₁ Bd hml0 hP hK
  obtain ⟨rfl, hZ, hh⟩ := hP
  have hx := Bd.exec
  have hby := Bd.bytes
  have hlk : meth.locks = false := Bd.notSynchronized
  have hml : c.maxLocals = 4 := hml0
  have hown : s.vm.findClass "com/example/inya/inya/Domain" = some m.cls := findClass_of_methodNamed Bd.named
  have hnm := (name_of_methodNamed Bd.named Bd.method).1
  have X0 : Stand p l e ({ frames := 1, cells := 0, slots := 0, locals := 12 } : Room) s m #[(.ref ad), (.int 0), (.int lo), (.int hi)] below meth c s₁ [] 0 0 := Stand.of_body Bd
  have e0 : s₁.heap = h0 := by rw [← hh, Bd.state]; rfl
  have N0 := Fr.nil n0
  show OGets p e below (OLeaves s (Q_din Z ad lo hi h0 n0 F ) ({ frames := 1, cells := 0, slots := 0, locals := 12 } : Room).cells ({ frames := 1, cells := 0, slots := 0, locals := 12 } : Room).slots) _
  refine OGets.enter (ef_din m ad (0 : Int32) lo hi) ?_
  show OGets p e below _ (s₁.setTop (mkF m 0 #[rv ad, iv 0, iv lo, iv hi] []))
  refine og (fun _ => XS.aloadN X0.here hx rfl (hb hby d21m1_0) rfl rfl) ?_
  obtain ⟨T79, X79, e79, st79⟩ := initO X0 hx hZ hown (ow hw 47 rfl) (ow hw 28 rfl) (ow hw 29 rfl) e0 (g := (mkF m 1 #[rv ad, iv 0, iv lo, iv hi] [(.ref ad)])) rfl (by rw [hml]; rfl) rfl (hb hby d21m1_1) (by decide) (W := 0) (by show 2 * 0 + _ ≤ _; exact Nat.le_of_eq rfl) (by decide)
  refine og st79 ?_
  refine og (fun _ => XS.aloadN X79.here hx rfl (hb hby d21m1_4) rfl rfl) ?_
  refine og (fun _ => XS.iloadN X79.here hx rfl (hb hby d21m1_5) rfl) ?_
  obtain ⟨T80, h80, X80, e80, W80, st80⟩ := putFN X79 hx hZ hown (ow hw 48 rfl) Via.refl e79 (V0.fld 0 rfl 0 rfl rfl) (V0.exa 0 rfl) (Or.inr ⟨(ow hw 49 rfl), rfl, hnm⟩) (ow hw 43 rfl) (ty := .boolean) (v' := (.int 0)) (by decide) rfl (by decide) (g := (mkF m 6 #[rv ad, iv 0, iv lo, iv hi] [(.int 0), (.ref ad)])) rfl rfl (hb hby d21m1_6)
  have V80 : OView Z n0 h80 (oD ad [(.int 0), (.int 0), (.int 0)] :: F) := V0.putF 0 rfl 0 rfl W80
  have N80 := Fr.snoc X80 N0 (V0.old 0 rfl)
  have Z80 : n0 ≤ h80.size := by rw [W80.size]; exact Z0
  have O80 := O0.wr W80 (V0.old 0 rfl)
  refine og st80 ?_
  refine og (fun _ => XS.aloadN X80.here hx rfl (hb hby d21m1_9) rfl rfl) ?_
  refine og (fun _ => XS.iloadN X80.here hx rfl (hb hby d21m1_10) rfl) ?_
  obtain ⟨T81, h81, X81, e81, W81, st81⟩ := putF X80 hx hZ hown (host := "") (Or.inl (ow hw 50 rfl)) Via.refl e80 (V80.fld 0 rfl 1 rfl rfl) (V80.exa 0 rfl) (Or.inr ⟨(ow hw 51 rfl), rfl, hnm⟩) (ow hw 43 rfl) (ty := .int) (by decide) rfl rfl (g := (mkF m 11 #[rv ad, iv 0, iv lo, iv hi] [(.int lo), (.ref ad)])) rfl rfl (hb hby d21m1_11)
  have V81 : OView Z n0 h81 (oD ad [(.int 0), (.int lo), (.int 0)] :: F) := V80.putF 0 rfl 1 rfl W81
  have N81 := Fr.snoc X81 N80 (V80.old 0 rfl)
  have Z81 : n0 ≤ h81.size := by rw [W81.size]; exact Z80
  have O81 := O80.wr W81 (V80.old 0 rfl)
  refine og st81 ?_
  refine og (fun _ => XS.aloadN X81.here hx rfl (hb hby d21m1_14) rfl rfl) ?_
  refine og (fun _ => XS.iloadN X81.here hx rfl (hb hby d21m1_15) rfl) ?_
  obtain ⟨T82, h82, X82, e82, W82, st82⟩ := putF X81 hx hZ hown (host := "") (Or.inl (ow hw 52 rfl)) Via.refl e81 (V81.fld 0 rfl 2 rfl rfl) (V81.exa 0 rfl) (Or.inr ⟨(ow hw 53 rfl), rfl, hnm⟩) (ow hw 43 rfl) (ty := .int) (by decide) rfl rfl (g := (mkF m 16 #[rv ad, iv 0, iv lo, iv hi] [(.int hi), (.ref ad)])) rfl rfl (hb hby d21m1_16)
  have V82 : OView Z n0 h82 (oD ad [(.int 0), (.int lo), (.int hi)] :: F) := V81.putF 0 rfl 2 rfl W82
  have N82 := Fr.snoc X82 N81 (V81.old 0 rfl)
  have Z82 : n0 ≤ h82.size := by rw [W82.size]; exact Z81
  have O82 := O81.wr W82 (V81.old 0 rfl)
  refine og st82 ?_
  refine OGets.retV X82 hx hlk Bd.returns (hb hby d21m1_19) (nb rfl) (nb rfl) ?_
  rw [e82]
  exact ⟨rfl, N82, V82, O82⟩
theorem d21m2_0 : decode prog_21_method_2_code 0 = .ok (.iload_n 0, 1) := by decide +kernel
theorem d21m2_1 : decode prog_21_method_2_code 1 = .ok (.iload_n 1, 1) := by decide +kernel
theorem d21m2_2 : decode prog_21_method_2_code 2 = .ok (.if_icmp .le 18, 3) := by decide +kernel
theorem d21m2_20 : decode prog_21_method_2_code 20 = .ok (.new 8, 3) := by decide +kernel
theorem d21m2_23 : decode prog_21_method_2_code 23 = .ok (.dup, 1) := by decide +kernel
theorem d21m2_24 : decode prog_21_method_2_code 24 = .ok (.iconst 0, 1) := by decide +kernel
theorem d21m2_25 : decode prog_21_method_2_code 25 = .ok (.iload_n 0, 1) := by decide +kernel
theorem d21m2_26 : decode prog_21_method_2_code 26 = .ok (.iload_n 1, 1) := by decide +kernel
theorem d21m2_27 : decode prog_21_method_2_code 27 = .ok (.invokespecial 29, 3) := by decide +kernel
theorem pd_10 : parseMethodDescriptor "(ZII)V" = some ⟨[.boolean, .int, .int], none⟩ := by decide +kernel
theorem d21m2_30 : decode prog_21_method_2_code 30 = .ok (.areturn, 1) := by decide +kernel
theorem ef_dra (m : MethodId) (x0 : Int32) (x1 : Int32) : entryFrame m #[(.int x0), (.int x1)] 2 = mkF m 0 #[.val (.int x0), .val (.int x1)] [] := by first | (simp [entryFrame, mkF, argsToLocals, Value.category]; done) | rfl
def Q_dra (Z : State) (lo : Int32) (hi : Int32) (h0 : Heap) (n0 : Nat) (F : List (Addr × OObj)) (v : Option Value) (h : Heap) (L : List Loc) : Prop := ∃ d : Addr, v = some (.ref d) ∧ Fr n0 L ∧ OView Z n0 h (oD d [(.int (0 : Int32)), (.int lo), (.int hi)] :: F) ∧ Old Z n0 h
set_option maxRecDepth 65536 in
set_option maxHeartbeats 40000000 in
theorem rm_dra (l : Launch) (Z : State) (a0 : Array Value) (hw : ∀ d ∈ tables_1, d.before a0 Z = true) (ws : List Jvm.Cond) (lo : Int32) (hi : Int32) (h0 : Heap) (n0 : Nat) (F : List (Addr × OObj)) (Z0 : n0 ≤ h0.size) (hle : ¬ hi < lo) (V0 : OView Z n0 h0 (F)) (O0 : Old Z n0 h0) :
    MetFree l (⟨"com/example/inya/inya/Domain", "range", "(II)Lcom/example/inya/inya/Domain;"⟩ : MethodName) (head1 (Jvm.Cond.code (⟨"com/example/inya/inya/Domain", "range", "(II)Lcom/example/inya/inya/Domain;"⟩ : MethodName) prog_21_method_2_code 2 (some (.object "com/example/inya/inya/Domain")) :: ws) ({ frames := 2, cells := 1, slots := 3, locals := 28 } : Room)) (fun a_ U => a_ = #[(.int lo), (.int hi)] ∧ Z.Warmed39 U.vm ∧ U.heap = h0) (fun _ _ _ _ _ => True) (fun _ U o U' => ∃ v L, o = .returned v ∧ Q_dra Z lo hi h0 n0 F v U'.heap L ∧ FrameEnd U o U' L ({ frames := 2, cells := 1, slots := 3, locals := 28 } : Room).cells ({ frames := 2, cells := 1, slots := 3, locals := 28 } : Room).slots) := by
  refine MetFree.of_bodySF (plainFor_of_name pn_9) hisR ?_
  intro p e s m args below meth c s₁ Bd hml0 hP hK
  obtain ⟨rfl, hZ, hh⟩ := hP
  have hx := Bd.exec
  have hby := Bd.bytes
  have hlk : meth.locks = false := Bd.notSynchronized
  have hml : c.maxLocals = 2 := hml0
  have hown : s.vm.findClass "com/example/inya/inya/Domain" = some m.cls := findClass_of_methodNamed Bd.named
  have hnm := (name_of_methodNamed Bd.named Bd.method).1
  have X0 : Stand p l e ({ frames := 2, cells := 1, slots := 3, locals := 28 } : Room) s m #[(.int lo), (.int hi)] below meth c s₁ [] 0 0 := Stand.of_body Bd
  have e0 : s₁.heap = h0 := by rw [← hh, Bd.state]; rfl
  have N0 := Fr.nil n0
  show OGets p e below (OLeaves s (Q_dra Z lo hi h0 n0 F ) ({ frames := 2, cells := 1, slots := 3, locals := 28 } : Room).cells ({ frames := 2, cells := 1, slots := 3, locals := 28 } : Room).slots) _
  refine OGets.enter (ef_dra m lo hi) ?_
  show OGets p e below _ (s₁.setTop (mkF m 0 #[iv lo, iv hi] []))
  refine og (fun _ => XS.iloadN X0.here hx rfl (hb hby d21m2_0) rfl) ?_
  refine og (fun _ => XS.iloadN X0.here hx rfl (hb hby d21m2_1) rfl) ?_
  refine og (fun _ => XS.icmpYes X0.here hx rfl (pc0 := 2) (pc' := 20) rfl (hb hby d21m2_2) rfl (flt (hle : ¬ (hi < lo))).2.2.2 (by decide) (by decide)) ?_
  obtain ⟨T84, h84, X84, e84, E84, A84, D84, -, st84⟩ := newO X0 hx hZ hown (ow hw 42 rfl) (ow hw 43 rfl) (ow hw 40 rfl) e0 (g := (mkF m 20 #[iv lo, iv hi] [])) rfl (hb hby d21m2_20) (by decide) (by decide)
  have V84' := V0.newObj (ns := ns_Domain) (vs := [(.int 0), (.int 0), (.int 0)]) Z0 E84 A84 D84 (lay_ns_Domain hw) (by decide) (by decide)
  have Z84 : n0 ≤ h84.size := Nat.le_trans Z0 E84.1
  obtain ⟨b84, g84⟩ : ∃ z, z = h0.size := ⟨_, rfl⟩
  rw [← g84] at V84' st84
  have V84 : OView Z n0 h84 (oD b84 [(.int 0), (.int 0), (.int 0)] :: F) := V84'
  have O84 := O0.ext E84
  refine og st84 ?_
  refine og (fun _ => XS.dup X84.here hx rfl (hb hby d21m2_23) rfl rfl) ?_
  refine og (fun _ => XS.iconst X84.here hx rfl (hb hby d21m2_24)) ?_
  refine og (fun _ => XS.iloadN X84.here hx rfl (hb hby d21m2_25) rfl) ?_
  refine og (fun _ => XS.iloadN X84.here hx rfl (hb hby d21m2_26) rfl) ?_
  obtain ⟨_, _, ⟨T85, L85, k85, n85⟩, -, X85, ⟨Lc85, hQ85, l85, y85, z85⟩, st85⟩ := X84.specialBack hx (y := (⟨"com/example/inya/inya/Domain", "<init>", "(ZII)V"⟩ : MethodName)) rfl hown (mvT hZ (ow hw 44 rfl)) (mvT hZ (ow hw 45 rfl)) (mvT hZ (ow hw 46 rfl)) (by decide) (backOf (W := 1) (rm_din l Z a0 hw [] b84 lo hi h84 n0 _ Z84  V84 O84) hZ (ow hw 46 rfl) (ow hw 40 rfl) (by decide) (by decide)) (g := (mkF m 27 #[iv lo, iv hi] [(.int hi), (.int lo), (.int 0), (.ref b84), (.ref b84)])) rfl (by rw [hml]; rfl) (Steps.refl _) (a := b84) (argsL := [(.int 0), (.int lo), (.int hi)]) (rest := [(.ref b84)]) (lenOf pd_10 rfl) rfl (by show 2 * 0 + _ ≤ _; exact Nat.le_of_eq rfl) (hb hby d21m2_27) (fun _ _ => ⟨rfl, e84, nb rfl, nb rfl⟩)
  dsimp only [Pt.U, Pt.locs, Pt.cells, Pt.slots] at X85 l85 y85 z85 st85 hQ85
  rw [l85, y85, z85] at X85
  obtain ⟨rfl, N85q, V85, O85q⟩ := hQ85
  have N85 := Fr.app N0 N85q
  have V85v : OView Z n0 T85.heap (oD b84 [(.int 0), (.int lo), (.int hi)] :: F) := V85
  have Z85 : n0 ≤ T85.heap.size := V85v.big 0 rfl
  refine OGets.after st85 ?_
  refine OGets.retA X85 hx hlk (t := (.object "com/example/inya/inya/Domain")) Bd.returns rfl rfl rfl (hb hby d21m2_30) (nb rfl) (nb rfl) ?_
  exact ⟨b84, rfl, N85, V85v, O85q⟩
theorem pn_11 : plainName "com/example/inya/inya/Variable" = true := by first | (simp [plainName, overriddenIn]; done) | decide +kernel
theorem d119m1_0 : decode prog_119_method_1_code 0 = .ok (.aload_n 0, 1) := by decide +kernel
theorem d119m1_1 : decode prog_119_method_1_code 1 = .ok (.invokespecial 1, 3) := by decide +kernel
theorem d119m1_4 : decode prog_119_method_1_code 4 = .ok (.aload_n 0, 1) := by decide +kernel
theorem d119m1_5 : decode prog_119_method_1_code 5 = .ok (.aload_n 1, 1) := by decide +kernel
theorem d119m1_6 : decode prog_119_method_1_code 6 = .ok (.putfield 7, 3) := by decide +kernel
theorem d119m1_9 : decode prog_119_method_1_code 9 = .ok (.aload_n 0, 1) := by decide +kernel
theorem d119m1_10 : decode prog_119_method_1_code 10 = .ok (.aload_n 2, 1) := by decide +kernel
theorem d119m1_11 : decode prog_119_method_1_code 11 = .ok (.putfield 13, 3) := by decide +kernel
theorem d119m1_14 : decode prog_119_method_1_code 14 = .ok (.aload_n 0, 1) := by decide +kernel
theorem d119m1_15 : decode prog_119_method_1_code 15 = .ok (.aload_n 3, 1) := by decide +kernel
theorem d119m1_16 : decode prog_119_method_1_code 16 = .ok (.putfield 17, 3) := by decide +kernel
theorem d119m1_19 : decode prog_119_method_1_code 19 = .ok (.aload_n 0, 1) := by decide +kernel
theorem d119m1_20 : decode prog_119_method_1_code 20 = .ok (.iload 4, 2) := by decide +kernel
theorem d119m1_22 : decode prog_119_method_1_code 22 = .ok (.putfield 21, 3) := by decide +kernel
theorem d119m1_25 : decode prog_119_method_1_code 25 = .ok (.aload_n 0, 1) := by decide +kernel
theorem d119m1_26 : decode prog_119_method_1_code 26 = .ok (.aload 5, 2) := by decide +kernel
theorem d119m1_28 : decode prog_119_method_1_code 28 = .ok (.putfield 25, 3) := by decide +kernel
theorem d119m1_31 : decode prog_119_method_1_code 31 = .ok (.return_, 1) := by decide +kernel
theorem ef_vin (m : MethodId) (x0 : Addr) (x3 : Addr) (x4 : Int32) : entryFrame m #[(.ref x0), .null, .null, (.ref x3), (.int x4), .null] 6 = mkF m 0 #[.val (.ref x0), .val .null, .val .null, .val (.ref x3), .val (.int x4), .val .null] [] := by first | (simp [entryFrame, mkF, argsToLocals, Value.category]; done) | rfl
def Q_vin (Z : State) (av : Addr) (ad : Addr) (ix : Int32) (h0 : Heap) (n0 : Nat) (F : List (Addr × OObj)) (v : Option Value) (h : Heap) (L : List Loc) : Prop := v = none ∧ Fr n0 L ∧ OView Z n0 h (oV av [.null, .null, (.ref ad), (.int ix), .null] :: F) ∧ Old Z n0 h
set_option maxRecDepth 65536 in
set_option maxHeartbeats 40000000 in
theorem rm_vin (l : Launch) (Z : State) (a0 : Array Value) (hw : ∀ d ∈ tables_1, d.before a0 Z = true) (ws : List Jvm.Cond) (av : Addr) (ad : Addr) (ix : Int32) (h0 : Heap) (n0 : Nat) (F : List (Addr × OObj)) (Z0 : n0 ≤ h0.size) (V0 : OView Z n0 h0 (oV av [.null, .null, .null, (.int 0), .null] :: F)) (O0 : Old Z n0 h0) :
    MetFree l (⟨"com/example/inya/inya/Variable", "<init>", "(Ljava/lang/String;Lcom/example/inya/inya/Role;Lcom/example/inya/inya/Domain;ILcom/example/inya/inya/Position;)V"⟩ : MethodName) (head1 (Jvm.Cond.code (⟨"com/example/inya/inya/Variable", "<init>", "(Ljava/lang/String;Lcom/example/inya/inya/Role;Lcom/example/inya/inya/Domain;ILcom/example/inya/inya/Position;)V"⟩ : MethodName) prog_119_method_1_code 6 none :: ws) ({ frames := 2, cells := 0, slots := 0, locals := 24 } : Room)) (fun a_ U => a_ = #[(.ref av), .null, .null, (.ref ad), (.int ix), .null] ∧ Z.Warmed39 U.vm ∧ U.heap = h0) (fun _ _ _ _ _ => True) (fun _ U o U' => ∃ v L, o = .returned v ∧ Q_vin Z av ad ix h0 n0 F v U'.heap L ∧ FrameEnd U o U' L ({ frames := 2, cells := 0, slots := 0, locals := 24 } : Room).cells ({ frames := 2, cells := 0, slots := 0, locals := 24 } : Room).slots) := by
  refine MetFree.of_bodySF (plainFor_of_name pn_11) hisR ?_
  intro p e s m args below meth c s₁ Bd hml0 hP hK
  obtain ⟨rfl, hZ, hh⟩ := hP
  have hx := Bd.exec
  have hby := Bd.bytes
  have hlk : meth.locks = false := Bd.notSynchronized
  have hml : c.maxLocals = 6 := hml0
  have hown : s.vm.findClass "com/example/inya/inya/Variable" = some m.cls := findClass_of_methodNamed Bd.named
  have hnm := (name_of_methodNamed Bd.named Bd.method).1
  have X0 : Stand p l e ({ frames := 2, cells := 0, slots := 0, locals := 24 } : Room) s m #[(.ref av), .null, .null, (.ref ad), (.int ix), .null] below meth c s₁ [] 0 0 := Stand.of_body Bd
  have e0 : s₁.heap = h0 := by rw [← hh, Bd.state]; rfl
  have N0 := Fr.nil n0
  show OGets p e below (OLeaves s (Q_vin Z av ad ix h0 n0 F ) ({ frames := 2, cells := 0, slots := 0, locals := 24 } : Room).cells ({ frames := 2, cells := 0, slots := 0, locals := 24 } : Room).slots) _
  refine OGets.enter (ef_vin m av ad ix) ?_
  show OGets p e below _ (s₁.setTop (mkF m 0 #[rv av, .val .null, .val .null, rv ad, iv ix, .val .null] []))
  refine og (fun _ => XS.aloadN X0.here hx rfl (hb hby d119m1_0) rfl rfl) ?_
  obtain ⟨_, _, ⟨T86, L86, k86, n86⟩, -, X86, ⟨Lc86, hQ86, l86, y86, z86⟩, st86⟩ := X0.specialBack hx (y := (⟨"java/lang/Record", "<init>", "()V"⟩ : MethodName)) rfl hown (mvT hZ (ow hw 57 rfl)) (mvT hZ (ow hw 58 rfl)) (mvT hZ (ow hw 61 rfl)) (by decide) (backOf (W := 0) (rm_rec l Z a0 hw [] av h0 n0  Z0 ) hZ (ow hw 61 rfl) (ow hw 60 rfl) (by decide) (by decide)) (g := (mkF m 1 #[rv av, .val .null, .val .null, rv ad, iv ix, .val .null] [(.ref av)])) rfl (by rw [hml]; rfl) (Steps.refl _) (a := av) (argsL := []) (rest := []) (lenOf pd_7 rfl) rfl (by show 2 * 0 + _ ≤ _; exact Nat.le_of_eq rfl) (hb hby d119m1_1) (fun _ _ => ⟨rfl, e0, nb rfl, nb rfl⟩)
  dsimp only [Pt.U, Pt.locs, Pt.cells, Pt.slots] at X86 l86 y86 z86 st86 hQ86
  rw [l86, y86, z86] at X86
  obtain ⟨rfl, rfl, e86⟩ := hQ86
  have N86 := Fr.app N0 (Fr.nil n0)
  refine OGets.after st86 ?_
  refine og (fun _ => XS.aloadN X86.here hx rfl (hb hby d119m1_4) rfl rfl) ?_
  refine og (fun _ => XS.aloadN X86.here hx rfl (hb hby d119m1_5) rfl rfl) ?_
  obtain ⟨T87, h87, X87, e87, W87, st87⟩ := putF X86 hx hZ hown (host := "") (Or.inl (ow hw 63 rfl)) Via.refl e86 (V0.fld 0 rfl 0 rfl rfl) (V0.exa 0 rfl) (Or.inr ⟨(ow hw 64 rfl), rfl, hnm⟩) (ow hw 36 rfl) (ty := (.object "java/lang/String")) (by decide) rfl rfl (g := (mkF m 6 #[rv av, .val .null, .val .null, rv ad, iv ix, .val .null] [.null, (.ref av)])) rfl rfl (hb hby d119m1_6)
  have V87 : OView Z n0 h87 (oV av [.null, .null, .null, (.int 0), .null] :: F) := V0.putF 0 rfl 0 rfl W87
  have N87 := Fr.snoc X87 N86 (V0.old 0 rfl)
  have Z87 : n0 ≤ h87.size := by rw [W87.size]; exact Z0
  have O87 := O0.wr W87 (V0.old 0 rfl)
  refine og st87 ?_
  refine og (fun _ => XS.aloadN X87.here hx rfl (hb hby d119m1_9) rfl rfl) ?_
  refine og (fun _ => XS.aloadN X87.here hx rfl (hb hby d119m1_10) rfl rfl) ?_
  obtain ⟨T88, h88, X88, e88, W88, st88⟩ := putF X87 hx hZ hown (host := "") (Or.inl (ow hw 65 rfl)) Via.refl e87 (V87.fld 0 rfl 1 rfl rfl) (V87.exa 0 rfl) (Or.inr ⟨(ow hw 66 rfl), rfl, hnm⟩) (ow hw 36 rfl) (ty := (.object "com/example/inya/inya/Role")) (by decide) rfl rfl (g := (mkF m 11 #[rv av, .val .null, .val .null, rv ad, iv ix, .val .null] [.null, (.ref av)])) rfl rfl (hb hby d119m1_11)
  have V88 : OView Z n0 h88 (oV av [.null, .null, .null, (.int 0), .null] :: F) := V87.putF 0 rfl 1 rfl W88
  have N88 := Fr.snoc X88 N87 (V87.old 0 rfl)
  have Z88 : n0 ≤ h88.size := by rw [W88.size]; exact Z87
  have O88 := O87.wr W88 (V87.old 0 rfl)
  refine og st88 ?_
  refine og (fun _ => XS.aloadN X88.here hx rfl (hb hby d119m1_14) rfl rfl) ?_
  refine og (fun _ => XS.aloadN X88.here hx rfl (hb hby d119m1_15) rfl rfl) ?_
  obtain ⟨T89, h89, X89, e89, W89, st89⟩ := putF X88 hx hZ hown (host := "") (Or.inl (ow hw 67 rfl)) Via.refl e88 (V88.fld 0 rfl 2 rfl rfl) (V88.exa 0 rfl) (Or.inr ⟨(ow hw 68 rfl), rfl, hnm⟩) (ow hw 36 rfl) (ty := (.object "com/example/inya/inya/Domain")) (by decide) rfl rfl (g := (mkF m 16 #[rv av, .val .null, .val .null, rv ad, iv ix, .val .null] [(.ref ad), (.ref av)])) rfl rfl (hb hby d119m1_16)
  have V89 : OView Z n0 h89 (oV av [.null, .null, (.ref ad), (.int 0), .null] :: F) := V88.putF 0 rfl 2 rfl W89
  have N89 := Fr.snoc X89 N88 (V88.old 0 rfl)
  have Z89 : n0 ≤ h89.size := by rw [W89.size]; exact Z88
  have O89 := O88.wr W89 (V88.old 0 rfl)
  refine og st89 ?_
  refine og (fun _ => XS.aloadN X89.here hx rfl (hb hby d119m1_19) rfl rfl) ?_
  refine og (fun _ => XS.iload X89.here hx rfl (hb hby d119m1_20) rfl) ?_
  obtain ⟨T90, h90, X90, e90, W90, st90⟩ := putF X89 hx hZ hown (host := "") (Or.inl (ow hw 69 rfl)) Via.refl e89 (V89.fld 0 rfl 3 rfl rfl) (V89.exa 0 rfl) (Or.inr ⟨(ow hw 70 rfl), rfl, hnm⟩) (ow hw 36 rfl) (ty := .int) (by decide) rfl rfl (g := (mkF m 22 #[rv av, .val .null, .val .null, rv ad, iv ix, .val .null] [(.int ix), (.ref av)])) rfl rfl (hb hby d119m1_22)
  have V90 : OView Z n0 h90 (oV av [.null, .null, (.ref ad), (.int ix), .null] :: F) := V89.putF 0 rfl 3 rfl W90
  have N90 := Fr.snoc X90 N89 (V89.old 0 rfl)
  have Z90 : n0 ≤ h90.size := by rw [W90.size]; exact Z89
  have O90 := O89.wr W90 (V89.old 0 rfl)
  refine og st90 ?_
  refine og (fun _ => XS.aloadN X90.here hx rfl (hb hby d119m1_25) rfl rfl) ?_
  refine og (fun _ => XS.aload X90.here hx rfl (hb hby d119m1_26) rfl rfl) ?_
  obtain ⟨T91, h91, X91, e91, W91, st91⟩ := putF X90 hx hZ hown (host := "") (Or.inl (ow hw 71 rfl)) Via.refl e90 (V90.fld 0 rfl 4 rfl rfl) (V90.exa 0 rfl) (Or.inr ⟨(ow hw 72 rfl), rfl, hnm⟩) (ow hw 36 rfl) (ty := (.object "com/example/inya/inya/Position")) (by decide) rfl rfl (g := (mkF m 28 #[rv av, .val .null, .val .null, rv ad, iv ix, .val .null] [.null, (.ref av)])) rfl rfl (hb hby d119m1_28)
  have V91 : OView Z n0 h91 (oV av [.null, .null, (.ref ad), (.int ix), .null] :: F) := V90.putF 0 rfl 4 rfl W91
  have N91 := Fr.snoc X91 N90 (V90.old 0 rfl)
  have Z91 : n0 ≤ h91.size := by rw [W91.size]; exact Z90
  have O91 := O90.wr W91 (V90.old 0 rfl)
  refine og st91 ?_
  refine OGets.retV X91 hx hlk Bd.returns (hb hby d119m1_31) (nb rfl) (nb rfl) ?_
  rw [e91]
  exact ⟨rfl, N91, V91, O91⟩
theorem dj38m6_0 : decode jdk_38_method_6_code 0 = .ok (.aload_n 0, 1) := by decide +kernel
theorem dj38m6_1 : decode jdk_38_method_6_code 1 = .ok (.getfield 9, 3) := by decide +kernel
theorem dj38m6_4 : decode jdk_38_method_6_code 4 = .ok (.arraylength, 1) := by decide +kernel
theorem dj38m6_5 : decode jdk_38_method_6_code 5 = .ok (.istore_n 2, 1) := by decide +kernel
theorem dj38m6_6 : decode jdk_38_method_6_code 6 = .ok (.iload_n 2, 1) := by decide +kernel
theorem dj38m6_7 : decode jdk_38_method_6_code 7 = .ok (.ifCond .gt 13, 3) := by decide +kernel
theorem dj38m6_10 : decode jdk_38_method_6_code 10 = .ok (.aload_n 0, 1) := by decide +kernel
theorem dj38m6_11 : decode jdk_38_method_6_code 11 = .ok (.getfield 9, 3) := by decide +kernel
theorem dj38m6_14 : decode jdk_38_method_6_code 14 = .ok (.getstatic 39, 3) := by decide +kernel
theorem dj38m6_17 : decode jdk_38_method_6_code 17 = .ok (.if_acmp .eq 28, 3) := by decide +kernel
theorem dj38m6_45 : decode jdk_38_method_6_code 45 = .ok (.aload_n 0, 1) := by decide +kernel
theorem dj38m6_46 : decode jdk_38_method_6_code 46 = .ok (.bipush 10, 2) := by decide +kernel
theorem dj38m6_48 : decode jdk_38_method_6_code 48 = .ok (.iload_n 1, 1) := by decide +kernel
theorem dj38m6_49 : decode jdk_38_method_6_code 49 = .ok (.invokestatic 79, 3) := by decide +kernel
theorem pd_12 : parseMethodDescriptor "(II)I" = some ⟨[.int, .int], some .int⟩ := by decide +kernel
theorem dj38m6_52 : decode jdk_38_method_6_code 52 = .ok (.anewarray 7, 3) := by decide +kernel
theorem dj38m6_55 : decode jdk_38_method_6_code 55 = .ok (.dup_x1, 1) := by decide +kernel
theorem dj38m6_56 : decode jdk_38_method_6_code 56 = .ok (.putfield 9, 3) := by decide +kernel
theorem dj38m6_59 : decode jdk_38_method_6_code 59 = .ok (.areturn, 1) := by decide +kernel
theorem ef_gri (m : MethodId) (x0 : Addr) (x1 : Int32) : entryFrame m #[(.ref x0), (.int x1)] 4 = mkF m 0 #[.val (.ref x0), .val (.int x1), .unset, .unset] [] := by first | (simp [entryFrame, mkF, argsToLocals, Value.category]; done) | rfl
def Q_gri (Z : State) (a : Addr) (dS : Addr) (clS : Cell) (h0 : Heap) (n0 : Nat) (F : List (Addr × OObj)) (v : Option Value) (h : Heap) (L : List Loc) : Prop := ∃ b : Addr, v = some (.ref b) ∧ Fr n0 L ∧ OView Z n0 h (oO0 b :: oL a [(.int (1 : Int32)), (.ref b), (.int (0 : Int32))] :: F) ∧ Old Z n0 h
set_option maxRecDepth 65536 in
set_option maxHeartbeats 40000000 in
theorem rm_gri (l : Launch) (Z : State) (a0 : Array Value) (hw : ∀ d ∈ tables_1, d.before a0 Z = true) (ws : List Jvm.Cond) (a : Addr) (dS : Addr) (clS : Cell) (h0 : Heap) (n0 : Nat) (F : List (Addr × OObj)) (Z0 : n0 ≤ h0.size) (S0 : Sta Z Z.heap "java/util/ArrayList" "DEFAULTCAPACITY_EMPTY_ELEMENTDATA" "[Ljava/lang/Object;" (.ref dS)) (A00 : Arr Z Z.heap dS clS (.object "java/lang/Object")) (hzS : clS.slots.size.toInt32 = (0 : Int32)) (V0 : OView Z n0 h0 (oL a [(.int 1), (.ref dS), (.int 0)] :: F)) (O0 : Old Z n0 h0) :
    MetFree l (⟨"java/util/ArrayList", "grow", "(I)[Ljava/lang/Object;"⟩ : MethodName) (head1 (Jvm.Cond.code (⟨"java/util/ArrayList", "grow", "(I)[Ljava/lang/Object;"⟩ : MethodName) jdk_38_method_6_code 4 (some (.array (.object "java/lang/Object"))) :: ws) ({ frames := 1, cells := 1, slots := 10, locals := 14 } : Room)) (fun a_ U => a_ = #[(.ref a), (.int 1)] ∧ Z.Warmed39 U.vm ∧ U.heap = h0) (fun _ _ _ _ _ => True) (fun _ U o U' => ∃ v L, o = .returned v ∧ Q_gri Z a dS clS h0 n0 F v U'.heap L ∧ FrameEnd U o U' L ({ frames := 1, cells := 1, slots := 10, locals := 14 } : Room).cells ({ frames := 1, cells := 1, slots := 10, locals := 14 } : Room).slots) := by
  refine MetFree.of_bodySF (plainFor_of_name pn_8) hisR ?_
  intro p e s m args below meth c s₁ Bd hml0 hP hK
  obtain ⟨rfl, hZ, hh⟩ := hP
  have hx := Bd.exec
  have hby := Bd.bytes
  have hlk : meth.locks = false := Bd.notSynchronized
  have hml : c.maxLocals = 4 := hml0
  have hown : s.vm.findClass "java/util/ArrayList" = some m.cls := findClass_of_methodNamed Bd.named
  have hnm := (name_of_methodNamed Bd.named Bd.method).1
  have X0 : Stand p l e ({ frames := 1, cells := 1, slots := 10, locals := 14 } : Room) s m #[(.ref a), (.int 1)] below meth c s₁ [] 0 0 := Stand.of_body Bd
  have e0 : s₁.heap = h0 := by rw [← hh, Bd.state]; rfl
  have N0 := Fr.nil n0
  show OGets p e below (OLeaves s (Q_gri Z a dS clS h0 n0 F ) ({ frames := 1, cells := 1, slots := 10, locals := 14 } : Room).cells ({ frames := 1, cells := 1, slots := 10, locals := 14 } : Room).slots) _
  refine OGets.enter (ef_gri m a (1 : Int32)) ?_
  show OGets p e below _ (s₁.setTop (mkF m 0 #[rv a, iv 1, uv, uv] []))
  refine og (fun _ => XS.aloadN X0.here hx rfl (hb hby dj38m6_0) rfl rfl) ?_
  obtain ⟨T92, X92, e92, st92⟩ := getF X0 hx hZ hown (host := "") (Or.inl (ow hw 33 rfl)) Via.refl e0 (V0.fld 0 rfl 1 rfl rfl) (g := (mkF m 1 #[rv a, iv 1, uv, uv] [(.ref a)])) rfl rfl (hb hby dj38m6_1)
  refine og st92 ?_
  have Ar93 := A00.ext O0.2
  refine og (U' := T92.setTop (mkF m 5 #[rv a, iv 1, uv, uv] [(.int 0)])) (fun t kt => ?_) ?_
  · refine X92.arraylength hx (by rw [e92]; exact Ar93.1) (State.isArrayOf_alike hZ.alike Ar93.2.1) (g := (mkF m 4 #[rv a, iv 1, uv, uv] [(.ref dS)])) rfl rfl (hb hby dj38m6_4) _ ?_
    rw [hzS]; exact kt
  refine og (fun _ => XS.istoreN X92.here hx rfl (hb hby dj38m6_5) rfl (l' := #[rv a, iv 1, iv 0, uv]) rfl) ?_
  refine og (fun _ => XS.iloadN X92.here hx rfl (hb hby dj38m6_6) rfl) ?_
  refine og (fun _ => XS.ifNo X92.here hx rfl (hb hby dj38m6_7) rfl ((if0 _ _).trans (flt (by decide : ¬ ((0 : Int32) < (0 : Int32)))).2.2.1)) ?_
  refine og (fun _ => XS.aloadN X92.here hx rfl (hb hby dj38m6_10) rfl rfl) ?_
  show OGets p e below _ (T92.setTop (mkF m 11 #[rv a, iv 1, iv 0, uv] [(.ref a)]))
  obtain ⟨T95, X95, e95, st95⟩ := getF X92 hx hZ hown (host := "") (Or.inl (ow hw 33 rfl)) Via.refl e92 (V0.fld 0 rfl 1 rfl rfl) (g := (mkF m 11 #[rv a, iv 1, iv 0, uv] [(.ref a)])) rfl rfl (hb hby dj38m6_11)
  refine og st95 ?_
  obtain ⟨T96, X96, e96, st96⟩ := getS2 X95 hx hZ hown (host := "") (Or.inl (ow hw 32 rfl)) Via.refl e95 (S0.ext O0.2) (g := (mkF m 14 #[rv a, iv 1, iv 0, uv] [(.ref dS)])) rfl (hb hby dj38m6_14)
  refine og st96 ?_
  refine og (fun _ => Jvm.RoadKit.acmp (g := (mkF m 17 #[rv a, iv 1, iv 0, uv] [(.ref dS), (.ref dS)])) X96 hx rfl rfl rfl (pc0 := 17) (pc' := 45) (same := true) rfl (hb hby dj38m6_17) rfl (by simp) (by decide) (by decide)) ?_
  refine og (fun _ => XS.aloadN X96.here hx rfl (hb hby dj38m6_45) rfl rfl) ?_
  refine og (fun _ => XS.bipush X96.here hx rfl (hb hby dj38m6_46)) ?_
  refine og (fun _ => XS.iloadN X96.here hx rfl (hb hby dj38m6_48) rfl) ?_
  obtain ⟨_, _, ⟨T97, L97, k97, n97⟩, -, X97, ⟨Lc97, hQ97, l97, y97, z97⟩, st97⟩ := Jvm.LawKit.callS X96 hx (y := (⟨"java/lang/Math", "max", "(II)I"⟩ : MethodName)) hown (mvT hZ (ow hw 97 rfl)) (mvT hZ (ow hw 98 rfl)) (mvT hZ (ow hw 99 rfl)) (mvT hZ (ow hw 100 rfl)) (by decide) (backOf (W := 1) (rm_mx l Z a0 hw [] (10 : Int32) (1 : Int32) h0 n0  Z0 ) hZ (ow hw 100 rfl) (ow hw 99 rfl) (by decide) (by decide)) (g := (mkF m 49 #[rv a, iv 1, iv 0, uv] [(.int 1), (.int 10), (.ref a)])) rfl (by rw [hml]; rfl) (argsL := [(.int 10), (.int 1)]) (rest := [(.ref a)]) (lenOf pd_12 rfl) rfl (by show 2 * 0 + _ ≤ _; exact Nat.le_of_eq rfl) (hb hby dj38m6_49) (fun _ _ => ⟨rfl, e96, nb rfl, nb rfl⟩)
  dsimp only [Pt.U, Pt.locs, Pt.cells, Pt.slots] at X97 l97 y97 z97 st97 hQ97
  rw [l97, y97, z97] at X97
  obtain ⟨rfl, rfl, e97⟩ := hQ97
  have N97 := Fr.app N0 (Fr.nil n0)
  rw [show f_mx (10 : Int32) (1 : Int32) = (10 : Int32) from by decide] at st97
  refine og st97 ?_
  obtain ⟨T98, h98, k98, X98, e98, E98, A98, Ov98, st98⟩ := newR X97 hx hZ hown (ow hw 101 rfl) (ow hw 102 rfl) e97 (g := (mkF m 52 #[rv a, iv 1, iv 0, uv] [(.int 10), (.ref a)])) rfl (hb hby dj38m6_52) rfl (by decide) (cap := 10) (by decide) (by decide) (by decide) (by decide)
  have V98' := V0.newArrR Z0 E98 A98 Ov98 10 rfl
  have Z98 : n0 ≤ h98.size := Nat.le_trans Z0 E98.1
  obtain ⟨b98, g98⟩ : ∃ z, z = h0.size := ⟨_, rfl⟩
  rw [← g98] at V98' st98
  have V98 : OView Z n0 h98 (oO0 b98 :: oL a [(.int 1), (.ref dS), (.int 0)] :: F) := V98'
  have O98 := O0.ext E98
  refine og st98 ?_
  refine og (fun _ => XS.dupX1 X98.here hx rfl (hb hby dj38m6_55) rfl rfl rfl) ?_
  obtain ⟨T99, h99, X99, e99, W99, st99⟩ := putF X98 hx hZ hown (host := "") (Or.inl (ow hw 33 rfl)) Via.refl e98 (V98.fld 1 rfl 1 rfl rfl) (V98.exa 1 rfl) (Or.inl (ow hw 34 rfl)) (ow hw 10 rfl) (ty := (.array (.object "java/lang/Object"))) (by decide) rfl rfl (g := (mkF m 56 #[rv a, iv 1, iv 0, uv] [(.ref b98), (.ref a), (.ref b98)])) rfl rfl (hb hby dj38m6_56)
  have V99 : OView Z n0 h99 (oO0 b98 :: oL a [(.int 1), (.ref b98), (.int 0)] :: F) := V98.putF 1 rfl 1 rfl W99
  have N99 := Fr.snoc X99 N97 (V98.old 1 rfl)
  have Z99 : n0 ≤ h99.size := by rw [W99.size]; exact Z98
  have O99 := O98.wr W99 (V98.old 1 rfl)
  refine og st99 ?_
  refine OGets.retA X99 hx hlk (t := (.array (.object "java/lang/Object"))) Bd.returns rfl rfl rfl (hb hby dj38m6_59) (nb rfl) (nb rfl) ?_
  rw [e99]
  exact ⟨b98, rfl, N99, V99, O99⟩
theorem dj38m7_0 : decode jdk_38_method_7_code 0 = .ok (.aload_n 0, 1) := by decide +kernel
theorem dj38m7_1 : decode jdk_38_method_7_code 1 = .ok (.aload_n 0, 1) := by decide +kernel
theorem dj38m7_2 : decode jdk_38_method_7_code 2 = .ok (.getfield 48, 3) := by decide +kernel
theorem dj38m7_5 : decode jdk_38_method_7_code 5 = .ok (.iconst 1, 1) := by decide +kernel
theorem dj38m7_6 : decode jdk_38_method_7_code 6 = .ok (.iadd, 1) := by decide +kernel
theorem dj38m7_7 : decode jdk_38_method_7_code 7 = .ok (.invokevirtual 69, 3) := by decide +kernel
theorem pd_13 : parseMethodDescriptor "(I)[Ljava/lang/Object;" = some ⟨[.int], some (.array (.object "java/lang/Object"))⟩ := by decide +kernel
theorem dj38m7_10 : decode jdk_38_method_7_code 10 = .ok (.areturn, 1) := by decide +kernel
theorem ef_gr (m : MethodId) (x0 : Addr) : entryFrame m #[(.ref x0)] 1 = mkF m 0 #[.val (.ref x0)] [] := by first | (simp [entryFrame, mkF, argsToLocals, Value.category]; done) | rfl
def Q_gr (Z : State) (a : Addr) (dS : Addr) (clS : Cell) (h0 : Heap) (n0 : Nat) (F : List (Addr × OObj)) (v : Option Value) (h : Heap) (L : List Loc) : Prop := ∃ b : Addr, v = some (.ref b) ∧ Fr n0 L ∧ OView Z n0 h (oO0 b :: oL a [(.int (1 : Int32)), (.ref b), (.int (0 : Int32))] :: F) ∧ Old Z n0 h
set_option maxRecDepth 65536 in
set_option maxHeartbeats 40000000 in
theorem rm_gr (l : Launch) (Z : State) (a0 : Array Value) (hw : ∀ d ∈ tables_1, d.before a0 Z = true) (ws : List Jvm.Cond) (a : Addr) (dS : Addr) (clS : Cell) (h0 : Heap) (n0 : Nat) (F : List (Addr × OObj)) (Z0 : n0 ≤ h0.size) (S0 : Sta Z Z.heap "java/util/ArrayList" "DEFAULTCAPACITY_EMPTY_ELEMENTDATA" "[Ljava/lang/Object;" (.ref dS)) (A00 : Arr Z Z.heap dS clS (.object "java/lang/Object")) (hzS : clS.slots.size.toInt32 = (0 : Int32)) (V0 : OView Z n0 h0 (oL a [(.int 1), (.ref dS), (.int 0)] :: F)) (O0 : Old Z n0 h0) :
    MetFree l (⟨"java/util/ArrayList", "grow", "()[Ljava/lang/Object;"⟩ : MethodName) (head1 (Jvm.Cond.code (⟨"java/util/ArrayList", "grow", "()[Ljava/lang/Object;"⟩ : MethodName) jdk_38_method_7_code 1 (some (.array (.object "java/lang/Object"))) :: ws) ({ frames := 2, cells := 1, slots := 10, locals := 29 } : Room)) (fun a_ U => a_ = #[(.ref a)] ∧ Z.Warmed39 U.vm ∧ U.heap = h0) (fun _ _ _ _ _ => True) (fun _ U o U' => ∃ v L, o = .returned v ∧ Q_gr Z a dS clS h0 n0 F v U'.heap L ∧ FrameEnd U o U' L ({ frames := 2, cells := 1, slots := 10, locals := 29 } : Room).cells ({ frames := 2, cells := 1, slots := 10, locals := 29 } : Room).slots) := by
  refine MetFree.of_bodySF (plainFor_of_name pn_8) hisR ?_
  intro p e s m args below meth c s₁ Bd hml0 hP hK
  obtain ⟨rfl, hZ, hh⟩ := hP
  have hx := Bd.exec
  have hby := Bd.bytes
  have hlk : meth.locks = false := Bd.notSynchronized
  have hml : c.maxLocals = 1 := hml0
  have hown : s.vm.findClass "java/util/ArrayList" = some m.cls := findClass_of_methodNamed Bd.named
  have hnm := (name_of_methodNamed Bd.named Bd.method).1
  have X0 : Stand p l e ({ frames := 2, cells := 1, slots := 10, locals := 29 } : Room) s m #[(.ref a)] below meth c s₁ [] 0 0 := Stand.of_body Bd
  have e0 : s₁.heap = h0 := by rw [← hh, Bd.state]; rfl
  have N0 := Fr.nil n0
  show OGets p e below (OLeaves s (Q_gr Z a dS clS h0 n0 F ) ({ frames := 2, cells := 1, slots := 10, locals := 29 } : Room).cells ({ frames := 2, cells := 1, slots := 10, locals := 29 } : Room).slots) _
  refine OGets.enter (ef_gr m a) ?_
  show OGets p e below _ (s₁.setTop (mkF m 0 #[rv a] []))
  refine og (fun _ => XS.aloadN X0.here hx rfl (hb hby dj38m7_0) rfl rfl) ?_
  refine og (fun _ => XS.aloadN X0.here hx rfl (hb hby dj38m7_1) rfl rfl) ?_
  obtain ⟨T100, X100, e100, st100⟩ := getF X0 hx hZ hown (host := "") (Or.inl (ow hw 80 rfl)) Via.refl e0 (V0.fld 0 rfl 2 rfl rfl) (g := (mkF m 2 #[rv a] [(.ref a), (.ref a)])) rfl rfl (hb hby dj38m7_2)
  refine og st100 ?_
  refine og (fun _ => XS.iconst X100.here hx rfl (hb hby dj38m7_5)) ?_
  refine og (fun _ => XS.iadd X100.here hx rfl (hb hby dj38m7_6) rfl) ?_
  show OGets p e below _ (T100.setTop (mkF m 7 #[rv a] [(.int 1), (.ref a)]))
  obtain ⟨cq101, q101, q101'⟩ := (V0.exa 0 rfl).cell
  obtain ⟨_, _, ⟨T101, L101, k101, n101⟩, -, X101, ⟨Lc101, hQ101, l101, y101, z101⟩, st101⟩ := X100.privateBack hx (y := (⟨"java/util/ArrayList", "grow", "(I)[Ljava/lang/Object;"⟩ : MethodName)) hown (mvT hZ (ow hw 92 rfl)) (mvT hZ (ow hw 93 rfl)) (mvT hZ (ow hw 95 rfl)) (Cond.privateMethod_at (mvP hZ (ow hw 94 rfl) (args := #[]))) (mvT hZ (ow hw 96 rfl)) (by decide) (backOf (W := 0) (rm_gri l Z a0 hw [] a dS clS h0 n0 _ Z0 S0 A00 hzS V0 O0) hZ (ow hw 96 rfl) (ow hw 11 rfl) (by decide) (by decide)) (g := (mkF m 7 #[rv a] [(.int 1), (.ref a)])) rfl (by rw [hml]; rfl) (Steps.refl _) (a := a) (by rw [e100]; exact q101) q101' (argsL := [(.int 1)]) (rest := []) (lenOf pd_13 rfl) rfl (by show 2 * 0 + _ ≤ _; exact Nat.le_of_eq rfl) (hb hby dj38m7_7) (fun _ _ => ⟨rfl, e100, nb rfl, nb rfl⟩)
  dsimp only [Pt.U, Pt.locs, Pt.cells, Pt.slots] at X101 l101 y101 z101 st101 hQ101
  rw [l101, y101, z101] at X101
  obtain ⟨b101, rfl, N101q, V101, O101q⟩ := hQ101
  have N101 := Fr.app N0 N101q
  have V101v : OView Z n0 T101.heap (oO0 b101 :: oL a [(.int 1), (.ref b101), (.int 0)] :: F) := V101
  have Z101 : n0 ≤ T101.heap.size := V101v.big 0 rfl
  refine OGets.after st101 ?_
  refine OGets.retA X101 hx hlk (t := (.array (.object "java/lang/Object"))) Bd.returns rfl rfl rfl (hb hby dj38m7_10) (nb rfl) (nb rfl) ?_
  exact ⟨b101, rfl, N101, V101v, O101q⟩
theorem dj38m24_0 : decode jdk_38_method_24_code 0 = .ok (.iload_n 3, 1) := by decide +kernel
theorem dj38m24_1 : decode jdk_38_method_24_code 1 = .ok (.aload_n 2, 1) := by decide +kernel
theorem dj38m24_2 : decode jdk_38_method_24_code 2 = .ok (.arraylength, 1) := by decide +kernel
theorem dj38m24_3 : decode jdk_38_method_24_code 3 = .ok (.if_icmp .ne 8, 3) := by decide +kernel
theorem dj38m24_6 : decode jdk_38_method_24_code 6 = .ok (.aload_n 0, 1) := by decide +kernel
theorem dj38m24_7 : decode jdk_38_method_24_code 7 = .ok (.invokevirtual 129, 3) := by decide +kernel
theorem pd_14 : parseMethodDescriptor "()[Ljava/lang/Object;" = some ⟨[], some (.array (.object "java/lang/Object"))⟩ := by decide +kernel
theorem dj38m24_10 : decode jdk_38_method_24_code 10 = .ok (.astore_n 2, 1) := by decide +kernel
theorem dj38m24_11 : decode jdk_38_method_24_code 11 = .ok (.aload_n 2, 1) := by decide +kernel
theorem dj38m24_12 : decode jdk_38_method_24_code 12 = .ok (.iload_n 3, 1) := by decide +kernel
theorem dj38m24_13 : decode jdk_38_method_24_code 13 = .ok (.aload_n 1, 1) := by decide +kernel
theorem dj38m24_14 : decode jdk_38_method_24_code 14 = .ok (.aastore, 1) := by decide +kernel
theorem dj38m24_15 : decode jdk_38_method_24_code 15 = .ok (.aload_n 0, 1) := by decide +kernel
theorem dj38m24_16 : decode jdk_38_method_24_code 16 = .ok (.iload_n 3, 1) := by decide +kernel
theorem dj38m24_17 : decode jdk_38_method_24_code 17 = .ok (.iconst 1, 1) := by decide +kernel
theorem dj38m24_18 : decode jdk_38_method_24_code 18 = .ok (.iadd, 1) := by decide +kernel
theorem dj38m24_19 : decode jdk_38_method_24_code 19 = .ok (.putfield 48, 3) := by decide +kernel
theorem dj38m24_22 : decode jdk_38_method_24_code 22 = .ok (.return_, 1) := by decide +kernel
theorem ef_ad0 (m : MethodId) (x0 : Addr) (x1 : Addr) (x2 : Addr) (x3 : Int32) : entryFrame m #[(.ref x0), (.ref x1), (.ref x2), (.int x3)] 4 = mkF m 0 #[.val (.ref x0), .val (.ref x1), .val (.ref x2), .val (.int x3)] [] := by first | (simp [entryFrame, mkF, argsToLocals, Value.category]; done) | rfl
def Q_ad0 (Z : State) (a : Addr) (x : Addr) (d : Addr) (dS : Addr) (clS : Cell) (ix : Int32) (h0 : Heap) (n0 : Nat) (F : List (Addr × OObj)) (v : Option Value) (h : Heap) (L : List Loc) : Prop := v = none ∧ Fr n0 L ∧ ∃ b : Addr, OView Z n0 h (oL a [(.int (1 : Int32)), (.ref b), (.int (1 : Int32))] :: oO1 b x :: oV x [.null, .null, (.ref d), (.int ix), .null] :: F) ∧ Old Z n0 h
set_option maxRecDepth 65536 in
set_option maxHeartbeats 40000000 in
theorem rm_ad0 (l : Launch) (Z : State) (a0 : Array Value) (hw : ∀ d ∈ tables_1, d.before a0 Z = true) (ws : List Jvm.Cond) (a : Addr) (x : Addr) (d : Addr) (dS : Addr) (clS : Cell) (ix : Int32) (h0 : Heap) (n0 : Nat) (F : List (Addr × OObj)) (Z0 : n0 ≤ h0.size) (S0 : Sta Z Z.heap "java/util/ArrayList" "DEFAULTCAPACITY_EMPTY_ELEMENTDATA" "[Ljava/lang/Object;" (.ref dS)) (A00 : Arr Z Z.heap dS clS (.object "java/lang/Object")) (hzS : clS.slots.size.toInt32 = (0 : Int32)) (V0 : OView Z n0 h0 (oL a [(.int 1), (.ref dS), (.int 0)] :: oV x [.null, .null, (.ref d), (.int ix), .null] :: F)) (O0 : Old Z n0 h0) :
    MetFree l (⟨"java/util/ArrayList", "add", "(Ljava/lang/Object;[Ljava/lang/Object;I)V"⟩ : MethodName) (head1 (Jvm.Cond.code (⟨"java/util/ArrayList", "add", "(Ljava/lang/Object;[Ljava/lang/Object;I)V"⟩ : MethodName) jdk_38_method_24_code 4 none :: ws) ({ frames := 3, cells := 1, slots := 10, locals := 41 } : Room)) (fun a_ U => a_ = #[(.ref a), (.ref x), (.ref dS), (.int 0)] ∧ Z.Warmed39 U.vm ∧ U.heap = h0) (fun _ _ _ _ _ => True) (fun _ U o U' => ∃ v L, o = .returned v ∧ Q_ad0 Z a x d dS clS ix h0 n0 F v U'.heap L ∧ FrameEnd U o U' L ({ frames := 3, cells := 1, slots := 10, locals := 41 } : Room).cells ({ frames := 3, cells := 1, slots := 10, locals := 41 } : Room).slots) := by
  refine MetFree.of_bodySF (plainFor_of_name pn_8) hisR ?_
  intro p e s m args below meth c s₁ Bd hml0 hP hK
  obtain ⟨rfl, hZ, hh⟩ := hP
  have hx := Bd.exec
  have hby := Bd.bytes
  have hlk : meth.locks = false := Bd.notSynchronized
  have hml : c.maxLocals = 4 := hml0
  have hown : s.vm.findClass "java/util/ArrayList" = some m.cls := findClass_of_methodNamed Bd.named
  have hnm := (name_of_methodNamed Bd.named Bd.method).1
  have X0 : Stand p l e ({ frames := 3, cells := 1, slots := 10, locals := 41 } : Room) s m #[(.ref a), (.ref x), (.ref dS), (.int 0)] below meth c s₁ [] 0 0 := Stand.of_body Bd
  have e0 : s₁.heap = h0 := by rw [← hh, Bd.state]; rfl
  have N0 := Fr.nil n0
  show OGets p e below (OLeaves s (Q_ad0 Z a x d dS clS ix h0 n0 F ) ({ frames := 3, cells := 1, slots := 10, locals := 41 } : Room).cells ({ frames := 3, cells := 1, slots := 10, locals := 41 } : Room).slots) _
  refine OGets.enter (ef_ad0 m a x dS (0 : Int32)) ?_
  show OGets p e below _ (s₁.setTop (mkF m 0 #[rv a, rv x, rv dS, iv 0] []))
  refine og (fun _ => XS.iloadN X0.here hx rfl (hb hby dj38m24_0) rfl) ?_
  refine og (fun _ => XS.aloadN X0.here hx rfl (hb hby dj38m24_1) rfl rfl) ?_
  have Ar102 := A00.ext O0.2
  refine og (U' := s₁.setTop (mkF m 3 #[rv a, rv x, rv dS, iv 0] [(.int 0), (.int 0)])) (fun t kt => ?_) ?_
  · refine X0.arraylength hx (by rw [e0]; exact Ar102.1) (State.isArrayOf_alike hZ.alike Ar102.2.1) (g := (mkF m 2 #[rv a, rv x, rv dS, iv 0] [(.ref dS), (.int 0)])) rfl rfl (hb hby dj38m24_2) _ ?_
    rw [hzS]; exact kt
  refine og (fun _ => XS.icmpNo X0.here hx rfl (hb hby dj38m24_3) rfl (teq (by decide : (0 : Int32) = (0 : Int32))).2) ?_
  refine og (fun _ => XS.aloadN X0.here hx rfl (hb hby dj38m24_6) rfl rfl) ?_
  obtain ⟨cq104, q104, q104'⟩ := (V0.exa 0 rfl).cell
  obtain ⟨_, _, ⟨T104, L104, k104, n104⟩, -, X104, ⟨Lc104, hQ104, l104, y104, z104⟩, st104⟩ := X0.privateBack hx (y := (⟨"java/util/ArrayList", "grow", "()[Ljava/lang/Object;"⟩ : MethodName)) hown (mvT hZ (ow hw 87 rfl)) (mvT hZ (ow hw 88 rfl)) (mvT hZ (ow hw 90 rfl)) (Cond.privateMethod_at (mvP hZ (ow hw 89 rfl) (args := #[]))) (mvT hZ (ow hw 91 rfl)) (by decide) (backOf (W := 0) (rm_gr l Z a0 hw [] a dS clS h0 n0 _ Z0 S0 A00 hzS V0 O0) hZ (ow hw 91 rfl) (ow hw 11 rfl) (by decide) (by decide)) (g := (mkF m 7 #[rv a, rv x, rv dS, iv 0] [(.ref a)])) rfl (by rw [hml]; rfl) (Steps.refl _) (a := a) (by rw [e0]; exact q104) q104' (argsL := []) (rest := []) (lenOf pd_14 rfl) rfl (by show 2 * 0 + _ ≤ _; exact Nat.le_of_eq rfl) (hb hby dj38m24_7) (fun _ _ => ⟨rfl, e0, nb rfl, nb rfl⟩)
  dsimp only [Pt.U, Pt.locs, Pt.cells, Pt.slots] at X104 l104 y104 z104 st104 hQ104
  rw [l104, y104, z104] at X104
  obtain ⟨b104, rfl, N104q, V104, O104q⟩ := hQ104
  have N104 := Fr.app N0 N104q
  have V104v : OView Z n0 T104.heap (oO0 b104 :: oL a [(.int 1), (.ref b104), (.int 0)] :: oV x [.null, .null, (.ref d), (.int ix), .null] :: F) := V104
  have Z104 : n0 ≤ T104.heap.size := V104v.big 0 rfl
  refine OGets.after st104 ?_
  refine og (fun _ => XS.astoreN X104.here hx rfl (hb hby dj38m24_10) rfl rfl (l' := #[rv a, rv x, rv b104, iv 0]) rfl) ?_
  refine og (fun _ => XS.aloadN X104.here hx rfl (hb hby dj38m24_11) rfl rfl) ?_
  refine og (fun _ => XS.iloadN X104.here hx rfl (hb hby dj38m24_12) rfl) ?_
  refine og (fun _ => XS.aloadN X104.here hx rfl (hb hby dj38m24_13) rfl rfl) ?_
  obtain ⟨cl105, Ar105, S105, Ov105⟩ := V104v.ovr 0 rfl
  obtain ⟨T105, h105, X105, e105, W105', st105⟩ := stR X104 hx hZ rfl Ar105 (j := (0 : Int32)) (own_inb S105 0 (by decide) (nb rfl)) rfl (Sto.of Ar105 (Ov105 _ rfl) (Ins.of_exa (V104v.exa 2 rfl) (ow hw 103 rfl))) (g := (mkF m 14 #[rv a, rv x, rv b104, iv 0] [(.ref x), (.int 0), (.ref b104)])) rfl rfl (hb hby dj38m24_14)
  have W105 := own_wr (vs := []) 0 (by decide) W105'
  have V105 : OView Z n0 h105 (oO1 b104 x :: oL a [(.int 1), (.ref b104), (.int 0)] :: oV x [.null, .null, (.ref d), (.int ix), .null] :: F) := V104v.putA 0 rfl W105
  have N105 := Fr.snoc X105 N104 (V104v.old 0 rfl)
  have Z105 : n0 ≤ h105.size := by rw [W105.size]; exact Z104
  have O105 := O104q.wr W105 (V104v.old 0 rfl)
  refine og st105 ?_
  refine og (fun _ => XS.aloadN X105.here hx rfl (hb hby dj38m24_15) rfl rfl) ?_
  refine og (fun _ => XS.iloadN X105.here hx rfl (hb hby dj38m24_16) rfl) ?_
  refine og (fun _ => XS.iconst X105.here hx rfl (hb hby dj38m24_17)) ?_
  refine og (fun _ => XS.iadd X105.here hx rfl (hb hby dj38m24_18) rfl) ?_
  show OGets p e below _ (T105.setTop (mkF m 19 #[rv a, rv x, rv b104, iv 0] [(.int 1), (.ref a)]))
  obtain ⟨T106, h106, X106, e106, W106, st106⟩ := putF X105 hx hZ hown (host := "") (Or.inl (ow hw 80 rfl)) Via.refl e105 (V105.fld 1 rfl 2 rfl rfl) (V105.exa 1 rfl) (Or.inl (ow hw 81 rfl)) (ow hw 10 rfl) (ty := .int) (by decide) rfl rfl (g := (mkF m 19 #[rv a, rv x, rv b104, iv 0] [(.int 1), (.ref a)])) rfl rfl (hb hby dj38m24_19)
  have V106 : OView Z n0 h106 (oO1 b104 x :: oL a [(.int 1), (.ref b104), (.int 1)] :: oV x [.null, .null, (.ref d), (.int ix), .null] :: F) := V105.putF 1 rfl 2 rfl W106
  have N106 := Fr.snoc X106 N105 (V105.old 1 rfl)
  have Z106 : n0 ≤ h106.size := by rw [W106.size]; exact Z105
  have O106 := O105.wr W106 (V105.old 1 rfl)
  refine og st106 ?_
  refine OGets.retV X106 hx hlk Bd.returns (hb hby dj38m24_22) (nb rfl) (nb rfl) ?_
  have Vp107 : OView Z _ h106 (oL a [(.int 1), (.ref b104), (.int 1)] :: oO1 b104 x :: oV x [.null, .null, (.ref d), (.int ix), .null] :: F) := (V106.bring 1 rfl)
  rw [e106]
  exact ⟨rfl, N106, b104, Vp107, O106⟩
theorem ef_ad1 (m : MethodId) (x0 : Addr) (x1 : Addr) (x2 : Addr) (x3 : Int32) : entryFrame m #[(.ref x0), (.ref x1), (.ref x2), (.int x3)] 4 = mkF m 0 #[.val (.ref x0), .val (.ref x1), .val (.ref x2), .val (.int x3)] [] := by first | (simp [entryFrame, mkF, argsToLocals, Value.category]; done) | rfl
def Q_ad1 (Z : State) (a : Addr) (x : Addr) (d : Addr) (b : Addr) (x0 : Addr) (ix : Int32) (h0 : Heap) (n0 : Nat) (F : List (Addr × OObj)) (v : Option Value) (h : Heap) (L : List Loc) : Prop := v = none ∧ Fr n0 L ∧ OView Z n0 h (oL a [(.int (2 : Int32)), (.ref b), (.int (2 : Int32))] :: oO2 b x0 x :: oV x [.null, .null, (.ref d), (.int ix), .null] :: F) ∧ Old Z n0 h
set_option maxRecDepth 65536 in
set_option maxHeartbeats 40000000 in
theorem rm_ad1 (l : Launch) (Z : State) (a0 : Array Value) (hw : ∀ d ∈ tables_1, d.before a0 Z = true) (ws : List Jvm.Cond) (a : Addr) (x : Addr) (d : Addr) (b : Addr) (x0 : Addr) (ix : Int32) (h0 : Heap) (n0 : Nat) (F : List (Addr × OObj)) (Z0 : n0 ≤ h0.size) (V0 : OView Z n0 h0 (oL a [(.int 2), (.ref b), (.int 1)] :: oO1 b x0 :: oV x [.null, .null, (.ref d), (.int ix), .null] :: F)) (O0 : Old Z n0 h0) :
    MetFree l (⟨"java/util/ArrayList", "add", "(Ljava/lang/Object;[Ljava/lang/Object;I)V"⟩ : MethodName) (head1 (Jvm.Cond.code (⟨"java/util/ArrayList", "add", "(Ljava/lang/Object;[Ljava/lang/Object;I)V"⟩ : MethodName) jdk_38_method_24_code 4 none :: ws) ({ frames := 0, cells := 0, slots := 0, locals := 0 } : Room)) (fun a_ U => a_ = #[(.ref a), (.ref x), (.ref b), (.int 1)] ∧ Z.Warmed39 U.vm ∧ U.heap = h0) (fun _ _ _ _ _ => True) (fun _ U o U' => ∃ v L, o = .returned v ∧ Q_ad1 Z a x d b x0 ix h0 n0 F v U'.heap L ∧ FrameEnd U o U' L ({ frames := 0, cells := 0, slots := 0, locals := 0 } : Room).cells ({ frames := 0, cells := 0, slots := 0, locals := 0 } : Room).slots) := by
  refine MetFree.of_bodySF (plainFor_of_name pn_8) hisR ?_
  intro p e s m args below meth c s₁ Bd hml0 hP hK
  obtain ⟨rfl, hZ, hh⟩ := hP
  have hx := Bd.exec
  have hby := Bd.bytes
  have hlk : meth.locks = false := Bd.notSynchronized
  have hml : c.maxLocals = 4 := hml0
  have hown : s.vm.findClass "java/util/ArrayList" = some m.cls := findClass_of_methodNamed Bd.named
  have hnm := (name_of_methodNamed Bd.named Bd.method).1
  have X0 : Stand p l e ({ frames := 0, cells := 0, slots := 0, locals := 0 } : Room) s m #[(.ref a), (.ref x), (.ref b), (.int 1)] below meth c s₁ [] 0 0 := Stand.of_body Bd
  have e0 : s₁.heap = h0 := by rw [← hh, Bd.state]; rfl
  have N0 := Fr.nil n0
  show OGets p e below (OLeaves s (Q_ad1 Z a x d b x0 ix h0 n0 F ) ({ frames := 0, cells := 0, slots := 0, locals := 0 } : Room).cells ({ frames := 0, cells := 0, slots := 0, locals := 0 } : Room).slots) _
  refine OGets.enter (ef_ad1 m a x b (1 : Int32)) ?_
  show OGets p e below _ (s₁.setTop (mkF m 0 #[rv a, rv x, rv b, iv 1] []))
  refine og (fun _ => XS.iloadN X0.here hx rfl (hb hby dj38m24_0) rfl) ?_
  refine og (fun _ => XS.aloadN X0.here hx rfl (hb hby dj38m24_1) rfl rfl) ?_
  obtain ⟨cl108, Ar108, S108⟩ := V0.arr 1 rfl
  have ln108 : cl108.slots.size.toInt32 = (10 : Int32) := by rw [own_len S108]; rfl
  refine og (U' := s₁.setTop (mkF m 3 #[rv a, rv x, rv b, iv 1] [(.int 10), (.int 1)])) (fun t kt => ?_) ?_
  · refine X0.arraylength hx (by rw [e0]; exact Ar108.1) (State.isArrayOf_alike hZ.alike Ar108.2.1) (g := (mkF m 2 #[rv a, rv x, rv b, iv 1] [(.ref b), (.int 1)])) rfl rfl (hb hby dj38m24_2) _ ?_
    rw [ln108]; exact kt
  refine og (fun _ => XS.icmpYes X0.here hx rfl (pc0 := 3) (pc' := 11) rfl (hb hby dj38m24_3) rfl (feq (by decide : ¬ ((1 : Int32) = (10 : Int32)))).2 (by decide) (by decide)) ?_
  refine og (fun _ => XS.aloadN X0.here hx rfl (hb hby dj38m24_11) rfl rfl) ?_
  refine og (fun _ => XS.iloadN X0.here hx rfl (hb hby dj38m24_12) rfl) ?_
  show OGets p e below _ (s₁.setTop (mkF m 13 #[rv a, rv x, rv b, iv 1] [(.int 1), (.ref b)]))
  refine og (fun _ => XS.aloadN X0.here hx rfl (hb hby dj38m24_13) rfl rfl) ?_
  obtain ⟨cl110, Ar110, S110, Ov110⟩ := V0.ovr 1 rfl
  obtain ⟨T110, h110, X110, e110, W110', st110⟩ := stR X0 hx hZ e0 Ar110 (j := (1 : Int32)) (own_inb S110 1 (by decide) (nb rfl)) rfl (Sto.of Ar110 (Ov110 _ rfl) (Ins.of_exa (V0.exa 2 rfl) (ow hw 103 rfl))) (g := (mkF m 14 #[rv a, rv x, rv b, iv 1] [(.ref x), (.int 1), (.ref b)])) rfl rfl (hb hby dj38m24_14)
  have W110 := own_wr (vs := []) 1 (by decide) W110'
  have V110 : OView Z n0 h110 (oL a [(.int 2), (.ref b), (.int 1)] :: oO2 b x0 x :: oV x [.null, .null, (.ref d), (.int ix), .null] :: F) := V0.putA 1 rfl W110
  have N110 := Fr.snoc X110 N0 (V0.old 1 rfl)
  have Z110 : n0 ≤ h110.size := by rw [W110.size]; exact Z0
  have O110 := O0.wr W110 (V0.old 1 rfl)
  refine og st110 ?_
  refine og (fun _ => XS.aloadN X110.here hx rfl (hb hby dj38m24_15) rfl rfl) ?_
  refine og (fun _ => XS.iloadN X110.here hx rfl (hb hby dj38m24_16) rfl) ?_
  refine og (fun _ => XS.iconst X110.here hx rfl (hb hby dj38m24_17)) ?_
  refine og (fun _ => XS.iadd X110.here hx rfl (hb hby dj38m24_18) rfl) ?_
  show OGets p e below _ (T110.setTop (mkF m 19 #[rv a, rv x, rv b, iv 1] [(.int 2), (.ref a)]))
  obtain ⟨T111, h111, X111, e111, W111, st111⟩ := putF X110 hx hZ hown (host := "") (Or.inl (ow hw 80 rfl)) Via.refl e110 (V110.fld 0 rfl 2 rfl rfl) (V110.exa 0 rfl) (Or.inl (ow hw 81 rfl)) (ow hw 10 rfl) (ty := .int) (by decide) rfl rfl (g := (mkF m 19 #[rv a, rv x, rv b, iv 1] [(.int 2), (.ref a)])) rfl rfl (hb hby dj38m24_19)
  have V111 : OView Z n0 h111 (oL a [(.int 2), (.ref b), (.int 2)] :: oO2 b x0 x :: oV x [.null, .null, (.ref d), (.int ix), .null] :: F) := V110.putF 0 rfl 2 rfl W111
  have N111 := Fr.snoc X111 N110 (V110.old 0 rfl)
  have Z111 : n0 ≤ h111.size := by rw [W111.size]; exact Z110
  have O111 := O110.wr W111 (V110.old 0 rfl)
  refine og st111 ?_
  refine OGets.retV X111 hx hlk Bd.returns (hb hby dj38m24_22) (nb rfl) (nb rfl) ?_
  rw [e111]
  exact ⟨rfl, N111, V111, O111⟩
theorem ef_ad2 (m : MethodId) (x0 : Addr) (x1 : Addr) (x2 : Addr) (x3 : Int32) : entryFrame m #[(.ref x0), (.ref x1), (.ref x2), (.int x3)] 4 = mkF m 0 #[.val (.ref x0), .val (.ref x1), .val (.ref x2), .val (.int x3)] [] := by first | (simp [entryFrame, mkF, argsToLocals, Value.category]; done) | rfl
def Q_ad2 (Z : State) (a : Addr) (x : Addr) (d : Addr) (b : Addr) (x0 : Addr) (x1 : Addr) (ix : Int32) (h0 : Heap) (n0 : Nat) (F : List (Addr × OObj)) (v : Option Value) (h : Heap) (L : List Loc) : Prop := v = none ∧ Fr n0 L ∧ OView Z n0 h (oL a [(.int (3 : Int32)), (.ref b), (.int (3 : Int32))] :: oO3 b x0 x1 x :: oV x [.null, .null, (.ref d), (.int ix), .null] :: F) ∧ Old Z n0 h
set_option maxRecDepth 65536 in
set_option maxHeartbeats 40000000 in
theorem rm_ad2 (l : Launch) (Z : State) (a0 : Array Value) (hw : ∀ d ∈ tables_1, d.before a0 Z = true) (ws : List Jvm.Cond) (a : Addr) (x : Addr) (d : Addr) (b : Addr) (x0 : Addr) (x1 : Addr) (ix : Int32) (h0 : Heap) (n0 : Nat) (F : List (Addr × OObj)) (Z0 : n0 ≤ h0.size) (V0 : OView Z n0 h0 (oL a [(.int 3), (.ref b), (.int 2)] :: oO2 b x0 x1 :: oV x [.null, .null, (.ref d), (.int ix), .null] :: F)) (O0 : Old Z n0 h0) :
    MetFree l (⟨"java/util/ArrayList", "add", "(Ljava/lang/Object;[Ljava/lang/Object;I)V"⟩ : MethodName) (head1 (Jvm.Cond.code (⟨"java/util/ArrayList", "add", "(Ljava/lang/Object;[Ljava/lang/Object;I)V"⟩ : MethodName) jdk_38_method_24_code 4 none :: ws) ({ frames := 0, cells := 0, slots := 0, locals := 0 } : Room)) (fun a_ U => a_ = #[(.ref a), (.ref x), (.ref b), (.int 2)] ∧ Z.Warmed39 U.vm ∧ U.heap = h0) (fun _ _ _ _ _ => True) (fun _ U o U' => ∃ v L, o = .returned v ∧ Q_ad2 Z a x d b x0 x1 ix h0 n0 F v U'.heap L ∧ FrameEnd U o U' L ({ frames := 0, cells := 0, slots := 0, locals := 0 } : Room).cells ({ frames := 0, cells := 0, slots := 0, locals := 0 } : Room).slots) := by
  refine MetFree.of_bodySF (plainFor_of_name pn_8) hisR ?_
  intro p e s m args below meth c s₁ Bd hml0 hP hK
  obtain ⟨rfl, hZ, hh⟩ := hP
  have hx := Bd.exec
  have hby := Bd.bytes
  have hlk : meth.locks = false := Bd.notSynchronized
  have hml : c.maxLocals = 4 := hml0
  have hown : s.vm.findClass "java/util/ArrayList" = some m.cls := findClass_of_methodNamed Bd.named
  have hnm := (name_of_methodNamed Bd.named Bd.method).1
  have X0 : Stand p l e ({ frames := 0, cells := 0, slots := 0, locals := 0 } : Room) s m #[(.ref a), (.ref x), (.ref b), (.int 2)] below meth c s₁ [] 0 0 := Stand.of_body Bd
  have e0 : s₁.heap = h0 := by rw [← hh, Bd.state]; rfl
  have N0 := Fr.nil n0
  show OGets p e below (OLeaves s (Q_ad2 Z a x d b x0 x1 ix h0 n0 F ) ({ frames := 0, cells := 0, slots := 0, locals := 0 } : Room).cells ({ frames := 0, cells := 0, slots := 0, locals := 0 } : Room).slots) _
  refine OGets.enter (ef_ad2 m a x b (2 : Int32)) ?_
  show OGets p e below _ (s₁.setTop (mkF m 0 #[rv a, rv x, rv b, iv 2] []))
  refine og (fun _ => XS.iloadN X0.here hx rfl (hb hby dj38m24_0) rfl) ?_
  refine og (fun _ => XS.aloadN X0.here hx rfl (hb hby dj38m24_1) rfl rfl) ?_
  obtain ⟨cl112, Ar112, S112⟩ := V0.arr 1 rfl
  have ln112 : cl112.slots.size.toInt32 = (10 : Int32) := by rw [own_len S112]; rfl
  refine og (U' := s₁.setTop (mkF m 3 #[rv a, rv x, rv b, iv 2] [(.int 10), (.int 2)])) (fun t kt => ?_) ?_
  · refine X0.arraylength hx (by rw [e0]; exact Ar112.1) (State.isArrayOf_alike hZ.alike Ar112.2.1) (g := (mkF m 2 #[rv a, rv x, rv b, iv 2] [(.ref b), (.int 2)])) rfl rfl (hb hby dj38m24_2) _ ?_
    rw [ln112]; exact kt
  refine og (fun _ => XS.icmpYes X0.here hx rfl (pc0 := 3) (pc' := 11) rfl (hb hby dj38m24_3) rfl (feq (by decide : ¬ ((2 : Int32) = (10 : Int32)))).2 (by decide) (by decide)) ?_
  refine og (fun _ => XS.aloadN X0.here hx rfl (hb hby dj38m24_11) rfl rfl) ?_
  refine og (fun _ => XS.iloadN X0.here hx rfl (hb hby dj38m24_12) rfl) ?_
  show OGets p e below _ (s₁.setTop (mkF m 13 #[rv a, rv x, rv b, iv 2] [(.int 2), (.ref b)]))
  refine og (fun _ => XS.aloadN X0.here hx rfl (hb hby dj38m24_13) rfl rfl) ?_
  obtain ⟨cl114, Ar114, S114, Ov114⟩ := V0.ovr 1 rfl
  obtain ⟨T114, h114, X114, e114, W114', st114⟩ := stR X0 hx hZ e0 Ar114 (j := (2 : Int32)) (own_inb S114 2 (by decide) (nb rfl)) rfl (Sto.of Ar114 (Ov114 _ rfl) (Ins.of_exa (V0.exa 2 rfl) (ow hw 103 rfl))) (g := (mkF m 14 #[rv a, rv x, rv b, iv 2] [(.ref x), (.int 2), (.ref b)])) rfl rfl (hb hby dj38m24_14)
  have W114 := own_wr (vs := []) 2 (by decide) W114'
  have V114 : OView Z n0 h114 (oL a [(.int 3), (.ref b), (.int 2)] :: oO3 b x0 x1 x :: oV x [.null, .null, (.ref d), (.int ix), .null] :: F) := V0.putA 1 rfl W114
  have N114 := Fr.snoc X114 N0 (V0.old 1 rfl)
  have Z114 : n0 ≤ h114.size := by rw [W114.size]; exact Z0
  have O114 := O0.wr W114 (V0.old 1 rfl)
  refine og st114 ?_
  refine og (fun _ => XS.aloadN X114.here hx rfl (hb hby dj38m24_15) rfl rfl) ?_
  refine og (fun _ => XS.iloadN X114.here hx rfl (hb hby dj38m24_16) rfl) ?_
  refine og (fun _ => XS.iconst X114.here hx rfl (hb hby dj38m24_17)) ?_
  refine og (fun _ => XS.iadd X114.here hx rfl (hb hby dj38m24_18) rfl) ?_
  show OGets p e below _ (T114.setTop (mkF m 19 #[rv a, rv x, rv b, iv 2] [(.int 3), (.ref a)]))
  obtain ⟨T115, h115, X115, e115, W115, st115⟩ := putF X114 hx hZ hown (host := "") (Or.inl (ow hw 80 rfl)) Via.refl e114 (V114.fld 0 rfl 2 rfl rfl) (V114.exa 0 rfl) (Or.inl (ow hw 81 rfl)) (ow hw 10 rfl) (ty := .int) (by decide) rfl rfl (g := (mkF m 19 #[rv a, rv x, rv b, iv 2] [(.int 3), (.ref a)])) rfl rfl (hb hby dj38m24_19)
  have V115 : OView Z n0 h115 (oL a [(.int 3), (.ref b), (.int 3)] :: oO3 b x0 x1 x :: oV x [.null, .null, (.ref d), (.int ix), .null] :: F) := V114.putF 0 rfl 2 rfl W115
  have N115 := Fr.snoc X115 N114 (V114.old 0 rfl)
  have Z115 : n0 ≤ h115.size := by rw [W115.size]; exact Z114
  have O115 := O114.wr W115 (V114.old 0 rfl)
  refine og st115 ?_
  refine OGets.retV X115 hx hlk Bd.returns (hb hby dj38m24_22) (nb rfl) (nb rfl) ?_
  rw [e115]
  exact ⟨rfl, N115, V115, O115⟩
theorem dj38m25_0 : decode jdk_38_method_25_code 0 = .ok (.aload_n 0, 1) := by decide +kernel
theorem dj38m25_1 : decode jdk_38_method_25_code 1 = .ok (.dup, 1) := by decide +kernel
theorem dj38m25_2 : decode jdk_38_method_25_code 2 = .ok (.getfield 63, 3) := by decide +kernel
theorem dj38m25_5 : decode jdk_38_method_25_code 5 = .ok (.iconst 1, 1) := by decide +kernel
theorem dj38m25_6 : decode jdk_38_method_25_code 6 = .ok (.iadd, 1) := by decide +kernel
theorem dj38m25_7 : decode jdk_38_method_25_code 7 = .ok (.putfield 63, 3) := by decide +kernel
theorem dj38m25_10 : decode jdk_38_method_25_code 10 = .ok (.aload_n 0, 1) := by decide +kernel
theorem dj38m25_11 : decode jdk_38_method_25_code 11 = .ok (.aload_n 1, 1) := by decide +kernel
theorem dj38m25_12 : decode jdk_38_method_25_code 12 = .ok (.aload_n 0, 1) := by decide +kernel
theorem dj38m25_13 : decode jdk_38_method_25_code 13 = .ok (.getfield 9, 3) := by decide +kernel
theorem dj38m25_16 : decode jdk_38_method_25_code 16 = .ok (.aload_n 0, 1) := by decide +kernel
theorem dj38m25_17 : decode jdk_38_method_25_code 17 = .ok (.getfield 48, 3) := by decide +kernel
theorem dj38m25_20 : decode jdk_38_method_25_code 20 = .ok (.invokevirtual 131, 3) := by decide +kernel
theorem pd_15 : parseMethodDescriptor "(Ljava/lang/Object;[Ljava/lang/Object;I)V" = some ⟨[(.object "java/lang/Object"), (.array (.object "java/lang/Object")), .int], none⟩ := by decide +kernel
theorem dj38m25_23 : decode jdk_38_method_25_code 23 = .ok (.iconst 1, 1) := by decide +kernel
theorem dj38m25_24 : decode jdk_38_method_25_code 24 = .ok (.ireturn, 1) := by decide +kernel
theorem ef_add0 (m : MethodId) (x0 : Addr) (x1 : Addr) : entryFrame m #[(.ref x0), (.ref x1)] 2 = mkF m 0 #[.val (.ref x0), .val (.ref x1)] [] := by first | (simp [entryFrame, mkF, argsToLocals, Value.category]; done) | rfl
def Q_add0 (Z : State) (a : Addr) (x : Addr) (d : Addr) (dS : Addr) (clS : Cell) (ix : Int32) (h0 : Heap) (n0 : Nat) (F : List (Addr × OObj)) (v : Option Value) (h : Heap) (L : List Loc) : Prop := v = some (.int (1 : Int32)) ∧ Fr n0 L ∧ ∃ b : Addr, OView Z n0 h (oL a [(.int (1 : Int32)), (.ref b), (.int (1 : Int32))] :: oO1 b x :: oV x [.null, .null, (.ref d), (.int ix), .null] :: F) ∧ Old Z n0 h
set_option maxRecDepth 65536 in
set_option maxHeartbeats 40000000 in
theorem rm_add0 (l : Launch) (Z : State) (a0 : Array Value) (hw : ∀ d ∈ tables_1, d.before a0 Z = true) (ws : List Jvm.Cond) (a : Addr) (x : Addr) (d : Addr) (dS : Addr) (clS : Cell) (ix : Int32) (h0 : Heap) (n0 : Nat) (F : List (Addr × OObj)) (Z0 : n0 ≤ h0.size) (S0 : Sta Z Z.heap "java/util/ArrayList" "DEFAULTCAPACITY_EMPTY_ELEMENTDATA" "[Ljava/lang/Object;" (.ref dS)) (A00 : Arr Z Z.heap dS clS (.object "java/lang/Object")) (hzS : clS.slots.size.toInt32 = (0 : Int32)) (V0 : OView Z n0 h0 (oL a [(.int 0), (.ref dS), (.int 0)] :: oV x [.null, .null, (.ref d), (.int ix), .null] :: F)) (O0 : Old Z n0 h0) :
    MetFree l (⟨"java/util/ArrayList", "add", "(Ljava/lang/Object;)Z"⟩ : MethodName) (head1 (Jvm.Cond.code (⟨"java/util/ArrayList", "add", "(Ljava/lang/Object;)Z"⟩ : MethodName) jdk_38_method_25_code 2 (some .boolean) :: ws) ({ frames := 4, cells := 1, slots := 10, locals := 56 } : Room)) (fun a_ U => a_ = #[(.ref a), (.ref x)] ∧ Z.Warmed39 U.vm ∧ U.heap = h0) (fun _ _ _ _ _ => True) (fun _ U o U' => ∃ v L, o = .returned v ∧ Q_add0 Z a x d dS clS ix h0 n0 F v U'.heap L ∧ FrameEnd U o U' L ({ frames := 4, cells := 1, slots := 10, locals := 56 } : Room).cells ({ frames := 4, cells := 1, slots := 10, locals := 56 } : Room).slots) := by
  refine MetFree.of_bodySF (plainFor_of_name pn_8) hisR ?_
  intro p e s m args below meth c s₁ Bd hml0 hP hK
  obtain ⟨rfl, hZ, hh⟩ := hP
  have hx := Bd.exec
  have hby := Bd.bytes
  have hlk : meth.locks = false := Bd.notSynchronized
  have hml : c.maxLocals = 2 := hml0
  have hown : s.vm.findClass "java/util/ArrayList" = some m.cls := findClass_of_methodNamed Bd.named
  have hnm := (name_of_methodNamed Bd.named Bd.method).1
  have X0 : Stand p l e ({ frames := 4, cells := 1, slots := 10, locals := 56 } : Room) s m #[(.ref a), (.ref x)] below meth c s₁ [] 0 0 := Stand.of_body Bd
  have e0 : s₁.heap = h0 := by rw [← hh, Bd.state]; rfl
  have N0 := Fr.nil n0
  show OGets p e below (OLeaves s (Q_add0 Z a x d dS clS ix h0 n0 F ) ({ frames := 4, cells := 1, slots := 10, locals := 56 } : Room).cells ({ frames := 4, cells := 1, slots := 10, locals := 56 } : Room).slots) _
  refine OGets.enter (ef_add0 m a x) ?_
  show OGets p e below _ (s₁.setTop (mkF m 0 #[rv a, rv x] []))
  refine og (fun _ => XS.aloadN X0.here hx rfl (hb hby dj38m25_0) rfl rfl) ?_
  refine og (fun _ => XS.dup X0.here hx rfl (hb hby dj38m25_1) rfl rfl) ?_
  obtain ⟨T116, X116, e116, st116⟩ := getF X0 hx hZ hown (host := "") (Or.inl (ow hw 78 rfl)) (Via.of (ow hw 79 rfl)) e0 (V0.fld 0 rfl 0 rfl rfl) (g := (mkF m 2 #[rv a, rv x] [(.ref a), (.ref a)])) rfl rfl (hb hby dj38m25_2)
  refine og st116 ?_
  refine og (fun _ => XS.iconst X116.here hx rfl (hb hby dj38m25_5)) ?_
  refine og (fun _ => XS.iadd X116.here hx rfl (hb hby dj38m25_6) rfl) ?_
  show OGets p e below _ (T116.setTop (mkF m 7 #[rv a, rv x] [(.int 1), (.ref a)]))
  obtain ⟨T117, h117, X117, e117, W117, st117⟩ := putF X116 hx hZ hown (host := "") (Or.inl (ow hw 78 rfl)) (Via.of (ow hw 79 rfl)) e116 (V0.fld 0 rfl 0 rfl rfl) (V0.exa 0 rfl) (Or.inl (ow hw 31 rfl)) (ow hw 10 rfl) (ty := .int) (by decide) rfl rfl (g := (mkF m 7 #[rv a, rv x] [(.int 1), (.ref a)])) rfl rfl (hb hby dj38m25_7)
  have V117 : OView Z n0 h117 (oL a [(.int 1), (.ref dS), (.int 0)] :: oV x [.null, .null, (.ref d), (.int ix), .null] :: F) := V0.putF 0 rfl 0 rfl W117
  have N117 := Fr.snoc X117 N0 (V0.old 0 rfl)
  have Z117 : n0 ≤ h117.size := by rw [W117.size]; exact Z0
  have O117 := O0.wr W117 (V0.old 0 rfl)
  refine og st117 ?_
  refine og (fun _ => XS.aloadN X117.here hx rfl (hb hby dj38m25_10) rfl rfl) ?_
  refine og (fun _ => XS.aloadN X117.here hx rfl (hb hby dj38m25_11) rfl rfl) ?_
  refine og (fun _ => XS.aloadN X117.here hx rfl (hb hby dj38m25_12) rfl rfl) ?_
  obtain ⟨T118, X118, e118, st118⟩ := getF X117 hx hZ hown (host := "") (Or.inl (ow hw 33 rfl)) Via.refl e117 (V117.fld 0 rfl 1 rfl rfl) (g := (mkF m 13 #[rv a, rv x] [(.ref a), (.ref x), (.ref a)])) rfl rfl (hb hby dj38m25_13)
  refine og st118 ?_
  refine og (fun _ => XS.aloadN X118.here hx rfl (hb hby dj38m25_16) rfl rfl) ?_
  obtain ⟨T119, X119, e119, st119⟩ := getF X118 hx hZ hown (host := "") (Or.inl (ow hw 80 rfl)) Via.refl e118 (V117.fld 0 rfl 2 rfl rfl) (g := (mkF m 17 #[rv a, rv x] [(.ref a), (.ref dS), (.ref x), (.ref a)])) rfl rfl (hb hby dj38m25_17)
  refine og st119 ?_
  obtain ⟨cq120, q120, q120'⟩ := (V117.exa 0 rfl).cell
  obtain ⟨_, _, ⟨T120, L120, k120, n120⟩, -, X120, ⟨Lc120, hQ120, l120, y120, z120⟩, st120⟩ := X119.privateBack hx (y := (⟨"java/util/ArrayList", "add", "(Ljava/lang/Object;[Ljava/lang/Object;I)V"⟩ : MethodName)) hown (mvT hZ (ow hw 82 rfl)) (mvT hZ (ow hw 83 rfl)) (mvT hZ (ow hw 85 rfl)) (Cond.privateMethod_at (mvP hZ (ow hw 84 rfl) (args := #[]))) (mvT hZ (ow hw 86 rfl)) (by decide) (backOf (W := 0) (rm_ad0 l Z a0 hw [] a x d dS clS ix h117 n0 _ Z117 S0 A00 hzS V117 O117) hZ (ow hw 86 rfl) (ow hw 11 rfl) (by decide) (by decide)) (g := (mkF m 20 #[rv a, rv x] [(.int 0), (.ref dS), (.ref x), (.ref a)])) rfl (by rw [hml]; rfl) (Steps.refl _) (a := a) (by rw [e119]; exact q120) q120' (argsL := [(.ref x), (.ref dS), (.int 0)]) (rest := []) (lenOf pd_15 rfl) rfl (by show 2 * 0 + _ ≤ _; exact Nat.le_of_eq rfl) (hb hby dj38m25_20) (fun _ _ => ⟨rfl, e119, nb rfl, nb rfl⟩)
  dsimp only [Pt.U, Pt.locs, Pt.cells, Pt.slots] at X120 l120 y120 z120 st120 hQ120
  rw [l120, y120, z120] at X120
  obtain ⟨rfl, N120q, b120, V120, O120q⟩ := hQ120
  have N120 := Fr.app N117 N120q
  have V120v : OView Z n0 T120.heap (oL a [(.int 1), (.ref b120), (.int 1)] :: oO1 b120 x :: oV x [.null, .null, (.ref d), (.int ix), .null] :: F) := V120
  have Z120 : n0 ≤ T120.heap.size := V120v.big 0 rfl
  refine OGets.after st120 ?_
  refine og (fun _ => XS.iconst X120.here hx rfl (hb hby dj38m25_23)) ?_
  refine OGets.retN X120 hx hlk (t := .boolean) Bd.returns (by simp) (hb hby dj38m25_24) (nb rfl) (nb rfl) ?_
  exact ⟨congrArg (fun z => some (Value.int z)) (show _ = (1 : Int32) from by decide), N120, b120, V120v, O120q⟩
theorem ef_add1 (m : MethodId) (x0 : Addr) (x1 : Addr) : entryFrame m #[(.ref x0), (.ref x1)] 2 = mkF m 0 #[.val (.ref x0), .val (.ref x1)] [] := by first | (simp [entryFrame, mkF, argsToLocals, Value.category]; done) | rfl
def Q_add1 (Z : State) (a : Addr) (x : Addr) (d : Addr) (b : Addr) (x0 : Addr) (ix : Int32) (h0 : Heap) (n0 : Nat) (F : List (Addr × OObj)) (v : Option Value) (h : Heap) (L : List Loc) : Prop := v = some (.int (1 : Int32)) ∧ Fr n0 L ∧ OView Z n0 h (oL a [(.int (2 : Int32)), (.ref b), (.int (2 : Int32))] :: oO2 b x0 x :: oV x [.null, .null, (.ref d), (.int ix), .null] :: F) ∧ Old Z n0 h
set_option maxRecDepth 65536 in
set_option maxHeartbeats 40000000 in
theorem rm_add1 (l : Launch) (Z : State) (a0 : Array Value) (hw : ∀ d ∈ tables_1, d.before a0 Z = true) (ws : List Jvm.Cond) (a : Addr) (x : Addr) (d : Addr) (b : Addr) (x0 : Addr) (ix : Int32) (h0 : Heap) (n0 : Nat) (F : List (Addr × OObj)) (Z0 : n0 ≤ h0.size) (V0 : OView Z n0 h0 (oL a [(.int 1), (.ref b), (.int 1)] :: oO1 b x0 :: oV x [.null, .null, (.ref d), (.int ix), .null] :: F)) (O0 : Old Z n0 h0) :
    MetFree l (⟨"java/util/ArrayList", "add", "(Ljava/lang/Object;)Z"⟩ : MethodName) (head1 (Jvm.Cond.code (⟨"java/util/ArrayList", "add", "(Ljava/lang/Object;)Z"⟩ : MethodName) jdk_38_method_25_code 2 (some .boolean) :: ws) ({ frames := 1, cells := 0, slots := 0, locals := 15 } : Room)) (fun a_ U => a_ = #[(.ref a), (.ref x)] ∧ Z.Warmed39 U.vm ∧ U.heap = h0) (fun _ _ _ _ _ => True) (fun _ U o U' => ∃ v L, o = .returned v ∧ Q_add1 Z a x d b x0 ix h0 n0 F v U'.heap L ∧ FrameEnd U o U' L ({ frames := 1, cells := 0, slots := 0, locals := 15 } : Room).cells ({ frames := 1, cells := 0, slots := 0, locals := 15 } : Room).slots) := by
  refine MetFree.of_bodySF (plainFor_of_name pn_8) hisR ?_
  intro p e s m args below meth c s₁ Bd hml0 hP hK
  obtain ⟨rfl, hZ, hh⟩ := hP
  have hx := Bd.exec
  have hby := Bd.bytes
  have hlk : meth.locks = false := Bd.notSynchronized
  have hml : c.maxLocals = 2 := hml0
  have hown : s.vm.findClass "java/util/ArrayList" = some m.cls := findClass_of_methodNamed Bd.named
  have hnm := (name_of_methodNamed Bd.named Bd.method).1
  have X0 : Stand p l e ({ frames := 1, cells := 0, slots := 0, locals := 15 } : Room) s m #[(.ref a), (.ref x)] below meth c s₁ [] 0 0 := Stand.of_body Bd
  have e0 : s₁.heap = h0 := by rw [← hh, Bd.state]; rfl
  have N0 := Fr.nil n0
  show OGets p e below (OLeaves s (Q_add1 Z a x d b x0 ix h0 n0 F ) ({ frames := 1, cells := 0, slots := 0, locals := 15 } : Room).cells ({ frames := 1, cells := 0, slots := 0, locals := 15 } : Room).slots) _
  refine OGets.enter (ef_add1 m a x) ?_
  show OGets p e below _ (s₁.setTop (mkF m 0 #[rv a, rv x] []))
  refine og (fun _ => XS.aloadN X0.here hx rfl (hb hby dj38m25_0) rfl rfl) ?_
  refine og (fun _ => XS.dup X0.here hx rfl (hb hby dj38m25_1) rfl rfl) ?_
  obtain ⟨T121, X121, e121, st121⟩ := getF X0 hx hZ hown (host := "") (Or.inl (ow hw 78 rfl)) (Via.of (ow hw 79 rfl)) e0 (V0.fld 0 rfl 0 rfl rfl) (g := (mkF m 2 #[rv a, rv x] [(.ref a), (.ref a)])) rfl rfl (hb hby dj38m25_2)
  refine og st121 ?_
  refine og (fun _ => XS.iconst X121.here hx rfl (hb hby dj38m25_5)) ?_
  refine og (fun _ => XS.iadd X121.here hx rfl (hb hby dj38m25_6) rfl) ?_
  show OGets p e below _ (T121.setTop (mkF m 7 #[rv a, rv x] [(.int 2), (.ref a)]))
  obtain ⟨T122, h122, X122, e122, W122, st122⟩ := putF X121 hx hZ hown (host := "") (Or.inl (ow hw 78 rfl)) (Via.of (ow hw 79 rfl)) e121 (V0.fld 0 rfl 0 rfl rfl) (V0.exa 0 rfl) (Or.inl (ow hw 31 rfl)) (ow hw 10 rfl) (ty := .int) (by decide) rfl rfl (g := (mkF m 7 #[rv a, rv x] [(.int 2), (.ref a)])) rfl rfl (hb hby dj38m25_7)
  have V122 : OView Z n0 h122 (oL a [(.int 2), (.ref b), (.int 1)] :: oO1 b x0 :: oV x [.null, .null, (.ref d), (.int ix), .null] :: F) := V0.putF 0 rfl 0 rfl W122
  have N122 := Fr.snoc X122 N0 (V0.old 0 rfl)
  have Z122 : n0 ≤ h122.size := by rw [W122.size]; exact Z0
  have O122 := O0.wr W122 (V0.old 0 rfl)
  refine og st122 ?_
  refine og (fun _ => XS.aloadN X122.here hx rfl (hb hby dj38m25_10) rfl rfl) ?_
  refine og (fun _ => XS.aloadN X122.here hx rfl (hb hby dj38m25_11) rfl rfl) ?_
  refine og (fun _ => XS.aloadN X122.here hx rfl (hb hby dj38m25_12) rfl rfl) ?_
  obtain ⟨T123, X123, e123, st123⟩ := getF X122 hx hZ hown (host := "") (Or.inl (ow hw 33 rfl)) Via.refl e122 (V122.fld 0 rfl 1 rfl rfl) (g := (mkF m 13 #[rv a, rv x] [(.ref a), (.ref x), (.ref a)])) rfl rfl (hb hby dj38m25_13)
  refine og st123 ?_
  refine og (fun _ => XS.aloadN X123.here hx rfl (hb hby dj38m25_16) rfl rfl) ?_
  obtain ⟨T124, X124, e124, st124⟩ := getF X123 hx hZ hown (host := "") (Or.inl (ow hw 80 rfl)) Via.refl e123 (V122.fld 0 rfl 2 rfl rfl) (g := (mkF m 17 #[rv a, rv x] [(.ref a), (.ref b), (.ref x), (.ref a)])) rfl rfl (hb hby dj38m25_17)
  refine og st124 ?_
  obtain ⟨cq125, q125, q125'⟩ := (V122.exa 0 rfl).cell
  obtain ⟨_, _, ⟨T125, L125, k125, n125⟩, -, X125, ⟨Lc125, hQ125, l125, y125, z125⟩, st125⟩ := X124.privateBack hx (y := (⟨"java/util/ArrayList", "add", "(Ljava/lang/Object;[Ljava/lang/Object;I)V"⟩ : MethodName)) hown (mvT hZ (ow hw 82 rfl)) (mvT hZ (ow hw 83 rfl)) (mvT hZ (ow hw 85 rfl)) (Cond.privateMethod_at (mvP hZ (ow hw 84 rfl) (args := #[]))) (mvT hZ (ow hw 86 rfl)) (by decide) (backOf (W := 0) (rm_ad1 l Z a0 hw [] a x d b x0 ix h122 n0 _ Z122  V122 O122) hZ (ow hw 86 rfl) (ow hw 11 rfl) (by decide) (by decide)) (g := (mkF m 20 #[rv a, rv x] [(.int 1), (.ref b), (.ref x), (.ref a)])) rfl (by rw [hml]; rfl) (Steps.refl _) (a := a) (by rw [e124]; exact q125) q125' (argsL := [(.ref x), (.ref b), (.int 1)]) (rest := []) (lenOf pd_15 rfl) rfl (by show 2 * 0 + _ ≤ _; exact Nat.le_of_eq rfl) (hb hby dj38m25_20) (fun _ _ => ⟨rfl, e124, nb rfl, nb rfl⟩)
  dsimp only [Pt.U, Pt.locs, Pt.cells, Pt.slots] at X125 l125 y125 z125 st125 hQ125
  rw [l125, y125, z125] at X125
  obtain ⟨rfl, N125q, V125, O125q⟩ := hQ125
  have N125 := Fr.app N122 N125q
  have V125v : OView Z n0 T125.heap (oL a [(.int 2), (.ref b), (.int 2)] :: oO2 b x0 x :: oV x [.null, .null, (.ref d), (.int ix), .null] :: F) := V125
  have Z125 : n0 ≤ T125.heap.size := V125v.big 0 rfl
  refine OGets.after st125 ?_
  refine og (fun _ => XS.iconst X125.here hx rfl (hb hby dj38m25_23)) ?_
  refine OGets.retN X125 hx hlk (t := .boolean) Bd.returns (by simp) (hb hby dj38m25_24) (nb rfl) (nb rfl) ?_
  exact ⟨congrArg (fun z => some (Value.int z)) (show _ = (1 : Int32) from by decide), N125, V125v, O125q⟩
theorem ef_add2 (m : MethodId) (x0 : Addr) (x1 : Addr) : entryFrame m #[(.ref x0), (.ref x1)] 2 = mkF m 0 #[.val (.ref x0), .val (.ref x1)] [] := by first | (simp [entryFrame, mkF, argsToLocals, Value.category]; done) | rfl
def Q_add2 (Z : State) (a : Addr) (x : Addr) (d : Addr) (b : Addr) (x0 : Addr) (x1 : Addr) (ix : Int32) (h0 : Heap) (n0 : Nat) (F : List (Addr × OObj)) (v : Option Value) (h : Heap) (L : List Loc) : Prop := v = some (.int (1 : Int32)) ∧ Fr n0 L ∧ OView Z n0 h (oL a [(.int (3 : Int32)), (.ref b), (.int (3 : Int32))] :: oO3 b x0 x1 x :: oV x [.null, .null, (.ref d), (.int ix), .null] :: F) ∧ Old Z n0 h
set_option maxRecDepth 65536 in
set_option maxHeartbeats 40000000 in
theorem rm_add2 (l : Launch) (Z : State) (a0 : Array Value) (hw : ∀ d ∈ tables_1, d.before a0 Z = true) (ws : List Jvm.Cond) (a : Addr) (x : Addr) (d : Addr) (b : Addr) (x0 : Addr) (x1 : Addr) (ix : Int32) (h0 : Heap) (n0 : Nat) (F : List (Addr × OObj)) (Z0 : n0 ≤ h0.size) (V0 : OView Z n0 h0 (oL a [(.int 2), (.ref b), (.int 2)] :: oO2 b x0 x1 :: oV x [.null, .null, (.ref d), (.int ix), .null] :: F)) (O0 : Old Z n0 h0) :
    MetFree l (⟨"java/util/ArrayList", "add", "(Ljava/lang/Object;)Z"⟩ : MethodName) (head1 (Jvm.Cond.code (⟨"java/util/ArrayList", "add", "(Ljava/lang/Object;)Z"⟩ : MethodName) jdk_38_method_25_code 2 (some .boolean) :: ws) ({ frames := 1, cells := 0, slots := 0, locals := 15 } : Room)) (fun a_ U => a_ = #[(.ref a), (.ref x)] ∧ Z.Warmed39 U.vm ∧ U.heap = h0) (fun _ _ _ _ _ => True) (fun _ U o U' => ∃ v L, o = .returned v ∧ Q_add2 Z a x d b x0 x1 ix h0 n0 F v U'.heap L ∧ FrameEnd U o U' L ({ frames := 1, cells := 0, slots := 0, locals := 15 } : Room).cells ({ frames := 1, cells := 0, slots := 0, locals := 15 } : Room).slots) := by
  refine MetFree.of_bodySF (plainFor_of_name pn_8) hisR ?_
  intro p e s m args below meth c s₁ Bd hml0 hP hK
  obtain ⟨rfl, hZ, hh⟩ := hP
  have hx := Bd.exec
  have hby := Bd.bytes
  have hlk : meth.locks = false := Bd.notSynchronized
  have hml : c.maxLocals = 2 := hml0
  have hown : s.vm.findClass "java/util/ArrayList" = some m.cls := findClass_of_methodNamed Bd.named
  have hnm := (name_of_methodNamed Bd.named Bd.method).1
  have X0 : Stand p l e ({ frames := 1, cells := 0, slots := 0, locals := 15 } : Room) s m #[(.ref a), (.ref x)] below meth c s₁ [] 0 0 := Stand.of_body Bd
  have e0 : s₁.heap = h0 := by rw [← hh, Bd.state]; rfl
  have N0 := Fr.nil n0
  show OGets p e below (OLeaves s (Q_add2 Z a x d b x0 x1 ix h0 n0 F ) ({ frames := 1, cells := 0, slots := 0, locals := 15 } : Room).cells ({ frames := 1, cells := 0, slots := 0, locals := 15 } : Room).slots) _
  refine OGets.enter (ef_add2 m a x) ?_
  show OGets p e below _ (s₁.setTop (mkF m 0 #[rv a, rv x] []))
  refine og (fun _ => XS.aloadN X0.here hx rfl (hb hby dj38m25_0) rfl rfl) ?_
  refine og (fun _ => XS.dup X0.here hx rfl (hb hby dj38m25_1) rfl rfl) ?_
  obtain ⟨T126, X126, e126, st126⟩ := getF X0 hx hZ hown (host := "") (Or.inl (ow hw 78 rfl)) (Via.of (ow hw 79 rfl)) e0 (V0.fld 0 rfl 0 rfl rfl) (g := (mkF m 2 #[rv a, rv x] [(.ref a), (.ref a)])) rfl rfl (hb hby dj38m25_2)
  refine og st126 ?_
  refine og (fun _ => XS.iconst X126.here hx rfl (hb hby dj38m25_5)) ?_
  refine og (fun _ => XS.iadd X126.here hx rfl (hb hby dj38m25_6) rfl) ?_
  show OGets p e below _ (T126.setTop (mkF m 7 #[rv a, rv x] [(.int 3), (.ref a)]))
  obtain ⟨T127, h127, X127, e127, W127, st127⟩ := putF X126 hx hZ hown (host := "") (Or.inl (ow hw 78 rfl)) (Via.of (ow hw 79 rfl)) e126 (V0.fld 0 rfl 0 rfl rfl) (V0.exa 0 rfl) (Or.inl (ow hw 31 rfl)) (ow hw 10 rfl) (ty := .int) (by decide) rfl rfl (g := (mkF m 7 #[rv a, rv x] [(.int 3), (.ref a)])) rfl rfl (hb hby dj38m25_7)
  have V127 : OView Z n0 h127 (oL a [(.int 3), (.ref b), (.int 2)] :: oO2 b x0 x1 :: oV x [.null, .null, (.ref d), (.int ix), .null] :: F) := V0.putF 0 rfl 0 rfl W127
  have N127 := Fr.snoc X127 N0 (V0.old 0 rfl)
  have Z127 : n0 ≤ h127.size := by rw [W127.size]; exact Z0
  have O127 := O0.wr W127 (V0.old 0 rfl)
  refine og st127 ?_
  refine og (fun _ => XS.aloadN X127.here hx rfl (hb hby dj38m25_10) rfl rfl) ?_
  refine og (fun _ => XS.aloadN X127.here hx rfl (hb hby dj38m25_11) rfl rfl) ?_
  refine og (fun _ => XS.aloadN X127.here hx rfl (hb hby dj38m25_12) rfl rfl) ?_
  obtain ⟨T128, X128, e128, st128⟩ := getF X127 hx hZ hown (host := "") (Or.inl (ow hw 33 rfl)) Via.refl e127 (V127.fld 0 rfl 1 rfl rfl) (g := (mkF m 13 #[rv a, rv x] [(.ref a), (.ref x), (.ref a)])) rfl rfl (hb hby dj38m25_13)
  refine og st128 ?_
  refine og (fun _ => XS.aloadN X128.here hx rfl (hb hby dj38m25_16) rfl rfl) ?_
  obtain ⟨T129, X129, e129, st129⟩ := getF X128 hx hZ hown (host := "") (Or.inl (ow hw 80 rfl)) Via.refl e128 (V127.fld 0 rfl 2 rfl rfl) (g := (mkF m 17 #[rv a, rv x] [(.ref a), (.ref b), (.ref x), (.ref a)])) rfl rfl (hb hby dj38m25_17)
  refine og st129 ?_
  obtain ⟨cq130, q130, q130'⟩ := (V127.exa 0 rfl).cell
  obtain ⟨_, _, ⟨T130, L130, k130, n130⟩, -, X130, ⟨Lc130, hQ130, l130, y130, z130⟩, st130⟩ := X129.privateBack hx (y := (⟨"java/util/ArrayList", "add", "(Ljava/lang/Object;[Ljava/lang/Object;I)V"⟩ : MethodName)) hown (mvT hZ (ow hw 82 rfl)) (mvT hZ (ow hw 83 rfl)) (mvT hZ (ow hw 85 rfl)) (Cond.privateMethod_at (mvP hZ (ow hw 84 rfl) (args := #[]))) (mvT hZ (ow hw 86 rfl)) (by decide) (backOf (W := 0) (rm_ad2 l Z a0 hw [] a x d b x0 x1 ix h127 n0 _ Z127  V127 O127) hZ (ow hw 86 rfl) (ow hw 11 rfl) (by decide) (by decide)) (g := (mkF m 20 #[rv a, rv x] [(.int 2), (.ref b), (.ref x), (.ref a)])) rfl (by rw [hml]; rfl) (Steps.refl _) (a := a) (by rw [e129]; exact q130) q130' (argsL := [(.ref x), (.ref b), (.int 2)]) (rest := []) (lenOf pd_15 rfl) rfl (by show 2 * 0 + _ ≤ _; exact Nat.le_of_eq rfl) (hb hby dj38m25_20) (fun _ _ => ⟨rfl, e129, nb rfl, nb rfl⟩)
  dsimp only [Pt.U, Pt.locs, Pt.cells, Pt.slots] at X130 l130 y130 z130 st130 hQ130
  rw [l130, y130, z130] at X130
  obtain ⟨rfl, N130q, V130, O130q⟩ := hQ130
  have N130 := Fr.app N127 N130q
  have V130v : OView Z n0 T130.heap (oL a [(.int 3), (.ref b), (.int 3)] :: oO3 b x0 x1 x :: oV x [.null, .null, (.ref d), (.int ix), .null] :: F) := V130
  have Z130 : n0 ≤ T130.heap.size := V130v.big 0 rfl
  refine OGets.after st130 ?_
  refine og (fun _ => XS.iconst X130.here hx rfl (hb hby dj38m25_23)) ?_
  refine OGets.retN X130 hx hlk (t := .boolean) Bd.returns (by simp) (hb hby dj38m25_24) (nb rfl) (nb rfl) ?_
  exact ⟨congrArg (fun z => some (Value.int z)) (show _ = (1 : Int32) from by decide), N130, V130v, O130q⟩
theorem dj38m8_0 : decode jdk_38_method_8_code 0 = .ok (.aload_n 0, 1) := by decide +kernel
theorem dj38m8_1 : decode jdk_38_method_8_code 1 = .ok (.getfield 48, 3) := by decide +kernel
theorem dj38m8_4 : decode jdk_38_method_8_code 4 = .ok (.ireturn, 1) := by decide +kernel
theorem ef_sz (m : MethodId) (x0 : Addr) : entryFrame m #[(.ref x0)] 1 = mkF m 0 #[.val (.ref x0)] [] := by first | (simp [entryFrame, mkF, argsToLocals, Value.category]; done) | rfl
def Q_sz (Z : State) (a : Addr) (b : Addr) (h0 : Heap) (n0 : Nat) (F : List (Addr × OObj)) (v : Option Value) (h : Heap) (L : List Loc) : Prop := v = some (.int (3 : Int32)) ∧ L = [] ∧ h = h0
set_option maxRecDepth 65536 in
set_option maxHeartbeats 40000000 in
theorem rm_sz (l : Launch) (Z : State) (a0 : Array Value) (hw : ∀ d ∈ tables_1, d.before a0 Z = true) (ws : List Jvm.Cond) (a : Addr) (b : Addr) (h0 : Heap) (n0 : Nat) (F : List (Addr × OObj)) (Z0 : n0 ≤ h0.size) (V0 : OView Z n0 h0 (oL a [(.int 3), (.ref b), (.int 3)] :: F)) :
    MetFree l (⟨"java/util/ArrayList", "size", "()I"⟩ : MethodName) (head1 (Jvm.Cond.code (⟨"java/util/ArrayList", "size", "()I"⟩ : MethodName) jdk_38_method_8_code 1 (some .int) :: ws) ({ frames := 0, cells := 0, slots := 0, locals := 0 } : Room)) (fun a_ U => a_ = #[(.ref a)] ∧ Z.Warmed39 U.vm ∧ U.heap = h0) (fun _ _ _ _ _ => True) (fun _ U o U' => ∃ v L, o = .returned v ∧ Q_sz Z a b h0 n0 F v U'.heap L ∧ FrameEnd U o U' L ({ frames := 0, cells := 0, slots := 0, locals := 0 } : Room).cells ({ frames := 0, cells := 0, slots := 0, locals := 0 } : Room).slots) := by
  refine MetFree.of_bodySF (plainFor_of_name pn_8) hisR ?_
  intro p e s m args below meth c s₁ Bd hml0 hP hK
  obtain ⟨rfl, hZ, hh⟩ := hP
  have hx := Bd.exec
  have hby := Bd.bytes
  have hlk : meth.locks = false := Bd.notSynchronized
  have hml : c.maxLocals = 1 := hml0
  have hown : s.vm.findClass "java/util/ArrayList" = some m.cls := findClass_of_methodNamed Bd.named
  have hnm := (name_of_methodNamed Bd.named Bd.method).1
  have X0 : Stand p l e ({ frames := 0, cells := 0, slots := 0, locals := 0 } : Room) s m #[(.ref a)] below meth c s₁ [] 0 0 := Stand.of_body Bd
  have e0 : s₁.heap = h0 := by rw [← hh, Bd.state]; rfl
  have N0 := Fr.nil n0
  show OGets p e below (OLeaves s (Q_sz Z a b h0 n0 F ) ({ frames := 0, cells := 0, slots := 0, locals := 0 } : Room).cells ({ frames := 0, cells := 0, slots := 0, locals := 0 } : Room).slots) _
  refine OGets.enter (ef_sz m a) ?_
  show OGets p e below _ (s₁.setTop (mkF m 0 #[rv a] []))
  refine og (fun _ => XS.aloadN X0.here hx rfl (hb hby dj38m8_0) rfl rfl) ?_
  obtain ⟨T131, X131, e131, st131⟩ := getF X0 hx hZ hown (host := "") (Or.inl (ow hw 80 rfl)) Via.refl e0 (V0.fld 0 rfl 2 rfl rfl) (g := (mkF m 1 #[rv a] [(.ref a)])) rfl rfl (hb hby dj38m8_1)
  refine og st131 ?_
  refine OGets.retI X131 hx hlk Bd.returns (hb hby dj38m8_4) (nb rfl) (nb rfl) ?_
  exact ⟨rfl, rfl, e131⟩
theorem pn_16 : plainName "jdk/internal/util/Preconditions" = true := by first | (simp [plainName, overriddenIn]; done) | decide +kernel
theorem dj41m11_0 : decode jdk_41_method_11_code 0 = .ok (.iload_n 0, 1) := by decide +kernel
theorem dj41m11_1 : decode jdk_41_method_11_code 1 = .ok (.ifCond .lt 8, 3) := by decide +kernel
theorem dj41m11_4 : decode jdk_41_method_11_code 4 = .ok (.iload_n 0, 1) := by decide +kernel
theorem dj41m11_5 : decode jdk_41_method_11_code 5 = .ok (.iload_n 1, 1) := by decide +kernel
theorem dj41m11_6 : decode jdk_41_method_11_code 6 = .ok (.if_icmp .lt 10, 3) := by decide +kernel
theorem dj41m11_16 : decode jdk_41_method_11_code 16 = .ok (.iload_n 0, 1) := by decide +kernel
theorem dj41m11_17 : decode jdk_41_method_11_code 17 = .ok (.ireturn, 1) := by decide +kernel
theorem ef_pck0 (m : MethodId) (x0 : Int32) (x1 : Int32) : entryFrame m #[(.int x0), (.int x1), .null] 3 = mkF m 0 #[.val (.int x0), .val (.int x1), .val .null] [] := by first | (simp [entryFrame, mkF, argsToLocals, Value.category]; done) | rfl
def Q_pck0 (Z : State)  (h0 : Heap) (n0 : Nat) (v : Option Value) (h : Heap) (L : List Loc) : Prop := v = some (.int (0 : Int32)) ∧ L = [] ∧ h = h0
set_option maxRecDepth 65536 in
set_option maxHeartbeats 40000000 in
theorem rm_pck0 (l : Launch) (Z : State) (a0 : Array Value) (hw : ∀ d ∈ tables_1, d.before a0 Z = true) (ws : List Jvm.Cond)  (h0 : Heap) (n0 : Nat) (Z0 : n0 ≤ h0.size) :
    MetFree l (⟨"jdk/internal/util/Preconditions", "checkIndex", "(IILjava/util/function/BiFunction;)I"⟩ : MethodName) (head1 (Jvm.Cond.code (⟨"jdk/internal/util/Preconditions", "checkIndex", "(IILjava/util/function/BiFunction;)I"⟩ : MethodName) jdk_41_method_11_code 3 (some .int) :: ws) ({ frames := 0, cells := 0, slots := 0, locals := 0 } : Room)) (fun a_ U => a_ = #[(.int 0), (.int 3), .null] ∧ Z.Warmed39 U.vm ∧ U.heap = h0) (fun _ _ _ _ _ => True) (fun _ U o U' => ∃ v L, o = .returned v ∧ Q_pck0 Z  h0 n0 v U'.heap L ∧ FrameEnd U o U' L ({ frames := 0, cells := 0, slots := 0, locals := 0 } : Room).cells ({ frames := 0, cells := 0, slots := 0, locals := 0 } : Room).slots) := by
  refine MetFree.of_bodySF (plainFor_of_name pn_16) hisR ?_
  intro p e s m args below meth c s₁ Bd hml0 hP hK
  obtain ⟨rfl, hZ, hh⟩ := hP
  have hx := Bd.exec
  have hby := Bd.bytes
  have hlk : meth.locks = false := Bd.notSynchronized
  have hml : c.maxLocals = 3 := hml0
  have hown : s.vm.findClass "jdk/internal/util/Preconditions" = some m.cls := findClass_of_methodNamed Bd.named
  have hnm := (name_of_methodNamed Bd.named Bd.method).1
  have X0 : Stand p l e ({ frames := 0, cells := 0, slots := 0, locals := 0 } : Room) s m #[(.int 0), (.int 3), .null] below meth c s₁ [] 0 0 := Stand.of_body Bd
  have e0 : s₁.heap = h0 := by rw [← hh, Bd.state]; rfl
  have N0 := Fr.nil n0
  show OGets p e below (OLeaves s (Q_pck0 Z  h0 n0 ) ({ frames := 0, cells := 0, slots := 0, locals := 0 } : Room).cells ({ frames := 0, cells := 0, slots := 0, locals := 0 } : Room).slots) _
  refine OGets.enter (ef_pck0 m (0 : Int32) (3 : Int32)) ?_
  show OGets p e below _ (s₁.setTop (mkF m 0 #[iv 0, iv 3, .val .null] []))
  refine og (fun _ => XS.iloadN X0.here hx rfl (hb hby dj41m11_0) rfl) ?_
  refine og (fun _ => XS.ifNo X0.here hx rfl (hb hby dj41m11_1) rfl ((if0 _ _).trans (flt (by decide : ¬ ((0 : Int32) < (0 : Int32)))).1)) ?_
  refine og (fun _ => XS.iloadN X0.here hx rfl (hb hby dj41m11_4) rfl) ?_
  refine og (fun _ => XS.iloadN X0.here hx rfl (hb hby dj41m11_5) rfl) ?_
  refine og (fun _ => XS.icmpYes X0.here hx rfl (pc0 := 6) (pc' := 16) rfl (hb hby dj41m11_6) rfl (tlt (by decide : (0 : Int32) < (3 : Int32))).1 (by decide) (by decide)) ?_
  refine og (fun _ => XS.iloadN X0.here hx rfl (hb hby dj41m11_16) rfl) ?_
  show OGets p e below _ (s₁.setTop (mkF m 17 #[iv 0, iv 3, .val .null] [(.int 0)]))
  refine OGets.retI X0 hx hlk Bd.returns (hb hby dj41m11_17) (nb rfl) (nb rfl) ?_
  exact ⟨rfl, rfl, e0⟩
theorem pn_17 : plainName "java/util/Objects" = true := by first | (simp [plainName, overriddenIn]; done) | decide +kernel
theorem dj31m17_0 : decode jdk_31_method_17_code 0 = .ok (.iload_n 0, 1) := by decide +kernel
theorem dj31m17_1 : decode jdk_31_method_17_code 1 = .ok (.iload_n 1, 1) := by decide +kernel
theorem dj31m17_2 : decode jdk_31_method_17_code 2 = .ok (.aconst_null, 1) := by decide +kernel
theorem dj31m17_3 : decode jdk_31_method_17_code 3 = .ok (.invokestatic 105, 3) := by decide +kernel
theorem pd_18 : parseMethodDescriptor "(IILjava/util/function/BiFunction;)I" = some ⟨[.int, .int, (.object "java/util/function/BiFunction")], some .int⟩ := by decide +kernel
theorem dj31m17_6 : decode jdk_31_method_17_code 6 = .ok (.ireturn, 1) := by decide +kernel
theorem ef_ock0 (m : MethodId) (x0 : Int32) (x1 : Int32) : entryFrame m #[(.int x0), (.int x1)] 2 = mkF m 0 #[.val (.int x0), .val (.int x1)] [] := by first | (simp [entryFrame, mkF, argsToLocals, Value.category]; done) | rfl
def Q_ock0 (Z : State)  (h0 : Heap) (n0 : Nat) (v : Option Value) (h : Heap) (L : List Loc) : Prop := v = some (.int (0 : Int32)) ∧ L = [] ∧ h = h0
set_option maxRecDepth 65536 in
set_option maxHeartbeats 40000000 in
theorem rm_ock0 (l : Launch) (Z : State) (a0 : Array Value) (hw : ∀ d ∈ tables_1, d.before a0 Z = true) (ws : List Jvm.Cond)  (h0 : Heap) (n0 : Nat) (Z0 : n0 ≤ h0.size) :
    MetFree l (⟨"java/util/Objects", "checkIndex", "(II)I"⟩ : MethodName) (head1 (Jvm.Cond.code (⟨"java/util/Objects", "checkIndex", "(II)I"⟩ : MethodName) jdk_31_method_17_code 2 (some .int) :: ws) ({ frames := 1, cells := 0, slots := 0, locals := 14 } : Room)) (fun a_ U => a_ = #[(.int 0), (.int 3)] ∧ Z.Warmed39 U.vm ∧ U.heap = h0) (fun _ _ _ _ _ => True) (fun _ U o U' => ∃ v L, o = .returned v ∧ Q_ock0 Z  h0 n0 v U'.heap L ∧ FrameEnd U o U' L ({ frames := 1, cells := 0, slots := 0, locals := 14 } : Room).cells ({ frames := 1, cells := 0, slots := 0, locals := 14 } : Room).slots) := by
  refine MetFree.of_bodySF (plainFor_of_name pn_17) hisR ?_
  intro p e s m args below meth c s₁ Bd hml0 hP hK
  obtain ⟨rfl, hZ, hh⟩ := hP
  have hx := Bd.exec
  have hby := Bd.bytes
  have hlk : meth.locks = false := Bd.notSynchronized
  have hml : c.maxLocals = 2 := hml0
  have hown : s.vm.findClass "java/util/Objects" = some m.cls := findClass_of_methodNamed Bd.named
  have hnm := (name_of_methodNamed Bd.named Bd.method).1
  have X0 : Stand p l e ({ frames := 1, cells := 0, slots := 0, locals := 14 } : Room) s m #[(.int 0), (.int 3)] below meth c s₁ [] 0 0 := Stand.of_body Bd
  have e0 : s₁.heap = h0 := by rw [← hh, Bd.state]; rfl
  have N0 := Fr.nil n0
  show OGets p e below (OLeaves s (Q_ock0 Z  h0 n0 ) ({ frames := 1, cells := 0, slots := 0, locals := 14 } : Room).cells ({ frames := 1, cells := 0, slots := 0, locals := 14 } : Room).slots) _
  refine OGets.enter (ef_ock0 m (0 : Int32) (3 : Int32)) ?_
  show OGets p e below _ (s₁.setTop (mkF m 0 #[iv 0, iv 3] []))
  refine og (fun _ => XS.iloadN X0.here hx rfl (hb hby dj31m17_0) rfl) ?_
  refine og (fun _ => XS.iloadN X0.here hx rfl (hb hby dj31m17_1) rfl) ?_
  refine og (fun _ => XS.aconstNull X0.here hx rfl (hb hby dj31m17_2)) ?_
  obtain ⟨_, _, ⟨T134, L134, k134, n134⟩, -, X134, ⟨Lc134, hQ134, l134, y134, z134⟩, st134⟩ := Jvm.LawKit.callS X0 hx (y := (⟨"jdk/internal/util/Preconditions", "checkIndex", "(IILjava/util/function/BiFunction;)I"⟩ : MethodName)) hown (mvT hZ (ow hw 144 rfl)) (mvT hZ (ow hw 145 rfl)) (mvT hZ (ow hw 146 rfl)) (mvT hZ (ow hw 147 rfl)) (by decide) (backOf (W := 0) (rm_pck0 l Z a0 hw []  h0 n0  Z0 ) hZ (ow hw 147 rfl) (ow hw 146 rfl) (by decide) (by decide)) (g := (mkF m 3 #[iv 0, iv 3] [.null, (.int 3), (.int 0)])) rfl (by rw [hml]; rfl) (argsL := [(.int 0), (.int 3), .null]) (rest := []) (lenOf pd_18 rfl) rfl (by show 2 * 0 + _ ≤ _; exact Nat.le_of_eq rfl) (hb hby dj31m17_3) (fun _ _ => ⟨rfl, e0, nb rfl, nb rfl⟩)
  dsimp only [Pt.U, Pt.locs, Pt.cells, Pt.slots] at X134 l134 y134 z134 st134 hQ134
  rw [l134, y134, z134] at X134
  obtain ⟨rfl, rfl, e134⟩ := hQ134
  have X134 : Stand p l e _ s m #[(.int 0), (.int 3)] below meth c T134 [] 0 0 := X134
  refine og st134 ?_
  refine OGets.retI X134 hx hlk Bd.returns (hb hby dj31m17_6) (nb rfl) (nb rfl) ?_
  exact ⟨rfl, rfl, e134⟩
theorem dj38m18_0 : decode jdk_38_method_18_code 0 = .ok (.aload_n 0, 1) := by decide +kernel
theorem dj38m18_1 : decode jdk_38_method_18_code 1 = .ok (.getfield 9, 3) := by decide +kernel
theorem dj38m18_4 : decode jdk_38_method_18_code 4 = .ok (.iload_n 1, 1) := by decide +kernel
theorem dj38m18_5 : decode jdk_38_method_18_code 5 = .ok (.aaload, 1) := by decide +kernel
theorem dj38m18_6 : decode jdk_38_method_18_code 6 = .ok (.areturn, 1) := by decide +kernel
theorem ef_eld0 (m : MethodId) (x0 : Addr) (x1 : Int32) : entryFrame m #[(.ref x0), (.int x1)] 2 = mkF m 0 #[.val (.ref x0), .val (.int x1)] [] := by first | (simp [entryFrame, mkF, argsToLocals, Value.category]; done) | rfl
def Q_eld0 (Z : State) (a : Addr) (b : Addr) (x0 : Addr) (x1 : Addr) (x2 : Addr) (h0 : Heap) (n0 : Nat) (F : List (Addr × OObj)) (v : Option Value) (h : Heap) (L : List Loc) : Prop := v = some (.ref x0) ∧ L = [] ∧ h = h0
set_option maxRecDepth 65536 in
set_option maxHeartbeats 40000000 in
theorem rm_eld0 (l : Launch) (Z : State) (a0 : Array Value) (hw : ∀ d ∈ tables_1, d.before a0 Z = true) (ws : List Jvm.Cond) (a : Addr) (b : Addr) (x0 : Addr) (x1 : Addr) (x2 : Addr) (h0 : Heap) (n0 : Nat) (F : List (Addr × OObj)) (Z0 : n0 ≤ h0.size) (V0 : OView Z n0 h0 (oL a [(.int 3), (.ref b), (.int 3)] :: oO3 b x0 x1 x2 :: F)) :
    MetFree l (⟨"java/util/ArrayList", "elementData", "(I)Ljava/lang/Object;"⟩ : MethodName) (head1 (Jvm.Cond.code (⟨"java/util/ArrayList", "elementData", "(I)Ljava/lang/Object;"⟩ : MethodName) jdk_38_method_18_code 2 (some (.object "java/lang/Object")) :: ws) ({ frames := 0, cells := 0, slots := 0, locals := 0 } : Room)) (fun a_ U => a_ = #[(.ref a), (.int 0)] ∧ Z.Warmed39 U.vm ∧ U.heap = h0) (fun _ _ _ _ _ => True) (fun _ U o U' => ∃ v L, o = .returned v ∧ Q_eld0 Z a b x0 x1 x2 h0 n0 F v U'.heap L ∧ FrameEnd U o U' L ({ frames := 0, cells := 0, slots := 0, locals := 0 } : Room).cells ({ frames := 0, cells := 0, slots := 0, locals := 0 } : Room).slots) := by
  refine MetFree.of_bodySF (plainFor_of_name pn_8) hisR ?_
  intro p e s m args below meth c s₁ Bd hml0 hP hK
  obtain ⟨rfl, hZ, hh⟩ := hP
  have hx := Bd.exec
  have hby := Bd.bytes
  have hlk : meth.locks = false := Bd.notSynchronized
  have hml : c.maxLocals = 2 := hml0
  have hown : s.vm.findClass "java/util/ArrayList" = some m.cls := findClass_of_methodNamed Bd.named
  have hnm := (name_of_methodNamed Bd.named Bd.method).1
  have X0 : Stand p l e ({ frames := 0, cells := 0, slots := 0, locals := 0 } : Room) s m #[(.ref a), (.int 0)] below meth c s₁ [] 0 0 := Stand.of_body Bd
  have e0 : s₁.heap = h0 := by rw [← hh, Bd.state]; rfl
  have N0 := Fr.nil n0
  show OGets p e below (OLeaves s (Q_eld0 Z a b x0 x1 x2 h0 n0 F ) ({ frames := 0, cells := 0, slots := 0, locals := 0 } : Room).cells ({ frames := 0, cells := 0, slots := 0, locals := 0 } : Room).slots) _
  refine OGets.enter (ef_eld0 m a (0 : Int32)) ?_
  show OGets p e below _ (s₁.setTop (mkF m 0 #[rv a, iv 0] []))
  refine og (fun _ => XS.aloadN X0.here hx rfl (hb hby dj38m18_0) rfl rfl) ?_
  obtain ⟨T135, X135, e135, st135⟩ := getF X0 hx hZ hown (host := "") (Or.inl (ow hw 33 rfl)) Via.refl e0 (V0.fld 0 rfl 1 rfl rfl) (g := (mkF m 1 #[rv a, iv 0] [(.ref a)])) rfl rfl (hb hby dj38m18_1)
  refine og st135 ?_
  refine og (fun _ => XS.iloadN X135.here hx rfl (hb hby dj38m18_4) rfl) ?_
  obtain ⟨cl136, Ar136, S136⟩ := V0.arr 1 rfl
  refine og (fun _ => X135.aaload hx (j := (0 : Int32)) (v := (.ref x0)) (by rw [e135]; exact Ar136.1) (State.isArrayOf_alike hZ.alike Ar136.2.1) rfl Ar136.2.2 (own_inb S136 0 (by decide) (nb rfl)) (own_get S136 0 (by decide) rfl) (g := (mkF m 5 #[rv a, iv 0] [(.int 0), (.ref b)])) rfl rfl (hb hby dj38m18_5) _) ?_
  refine OGets.retA X135 hx hlk (t := (.object "java/lang/Object")) Bd.returns rfl rfl rfl (hb hby dj38m18_6) (nb rfl) (nb rfl) ?_
  exact ⟨rfl, rfl, e135⟩
theorem dj38m20_0 : decode jdk_38_method_20_code 0 = .ok (.iload_n 1, 1) := by decide +kernel
theorem dj38m20_1 : decode jdk_38_method_20_code 1 = .ok (.aload_n 0, 1) := by decide +kernel
theorem dj38m20_2 : decode jdk_38_method_20_code 2 = .ok (.getfield 48, 3) := by decide +kernel
theorem dj38m20_5 : decode jdk_38_method_20_code 5 = .ok (.invokestatic 118, 3) := by decide +kernel
theorem dj38m20_8 : decode jdk_38_method_20_code 8 = .ok (.pop, 1) := by decide +kernel
theorem dj38m20_9 : decode jdk_38_method_20_code 9 = .ok (.aload_n 0, 1) := by decide +kernel
theorem dj38m20_10 : decode jdk_38_method_20_code 10 = .ok (.iload_n 1, 1) := by decide +kernel
theorem dj38m20_11 : decode jdk_38_method_20_code 11 = .ok (.invokevirtual 123, 3) := by decide +kernel
theorem pd_19 : parseMethodDescriptor "(I)Ljava/lang/Object;" = some ⟨[.int], some (.object "java/lang/Object")⟩ := by decide +kernel
theorem dj38m20_14 : decode jdk_38_method_20_code 14 = .ok (.areturn, 1) := by decide +kernel
theorem ef_get0 (m : MethodId) (x0 : Addr) (x1 : Int32) : entryFrame m #[(.ref x0), (.int x1)] 2 = mkF m 0 #[.val (.ref x0), .val (.int x1)] [] := by first | (simp [entryFrame, mkF, argsToLocals, Value.category]; done) | rfl
def Q_get0 (Z : State) (a : Addr) (b : Addr) (x0 : Addr) (x1 : Addr) (x2 : Addr) (h0 : Heap) (n0 : Nat) (F : List (Addr × OObj)) (v : Option Value) (h : Heap) (L : List Loc) : Prop := v = some (.ref x0) ∧ L = [] ∧ h = h0
set_option maxRecDepth 65536 in
set_option maxHeartbeats 40000000 in
theorem rm_get0 (l : Launch) (Z : State) (a0 : Array Value) (hw : ∀ d ∈ tables_1, d.before a0 Z = true) (ws : List Jvm.Cond) (a : Addr) (b : Addr) (x0 : Addr) (x1 : Addr) (x2 : Addr) (h0 : Heap) (n0 : Nat) (F : List (Addr × OObj)) (Z0 : n0 ≤ h0.size) (V0 : OView Z n0 h0 (oL a [(.int 3), (.ref b), (.int 3)] :: oO3 b x0 x1 x2 :: F)) :
    MetFree l (⟨"java/util/ArrayList", "get", "(I)Ljava/lang/Object;"⟩ : MethodName) (head1 (Jvm.Cond.code (⟨"java/util/ArrayList", "get", "(I)Ljava/lang/Object;"⟩ : MethodName) jdk_38_method_20_code 2 (some (.object "java/lang/Object")) :: ws) ({ frames := 2, cells := 0, slots := 0, locals := 27 } : Room)) (fun a_ U => a_ = #[(.ref a), (.int 0)] ∧ Z.Warmed39 U.vm ∧ U.heap = h0) (fun _ _ _ _ _ => True) (fun _ U o U' => ∃ v L, o = .returned v ∧ Q_get0 Z a b x0 x1 x2 h0 n0 F v U'.heap L ∧ FrameEnd U o U' L ({ frames := 2, cells := 0, slots := 0, locals := 27 } : Room).cells ({ frames := 2, cells := 0, slots := 0, locals := 27 } : Room).slots) := by
  refine MetFree.of_bodySF (plainFor_of_name pn_8) hisR ?_
  intro p e s m args below meth c s₁ Bd hml0 hP hK
  obtain ⟨rfl, hZ, hh⟩ := hP
  have hx := Bd.exec
  have hby := Bd.bytes
  have hlk : meth.locks = false := Bd.notSynchronized
  have hml : c.maxLocals = 2 := hml0
  have hown : s.vm.findClass "java/util/ArrayList" = some m.cls := findClass_of_methodNamed Bd.named
  have hnm := (name_of_methodNamed Bd.named Bd.method).1
  have X0 : Stand p l e ({ frames := 2, cells := 0, slots := 0, locals := 27 } : Room) s m #[(.ref a), (.int 0)] below meth c s₁ [] 0 0 := Stand.of_body Bd
  have e0 : s₁.heap = h0 := by rw [← hh, Bd.state]; rfl
  have N0 := Fr.nil n0
  show OGets p e below (OLeaves s (Q_get0 Z a b x0 x1 x2 h0 n0 F ) ({ frames := 2, cells := 0, slots := 0, locals := 27 } : Room).cells ({ frames := 2, cells := 0, slots := 0, locals := 27 } : Room).slots) _
  refine OGets.enter (ef_get0 m a (0 : Int32)) ?_
  show OGets p e below _ (s₁.setTop (mkF m 0 #[rv a, iv 0] []))
  refine og (fun _ => XS.iloadN X0.here hx rfl (hb hby dj38m20_0) rfl) ?_
  refine og (fun _ => XS.aloadN X0.here hx rfl (hb hby dj38m20_1) rfl rfl) ?_
  obtain ⟨T137, X137, e137, st137⟩ := getF X0 hx hZ hown (host := "") (Or.inl (ow hw 80 rfl)) Via.refl e0 (V0.fld 0 rfl 2 rfl rfl) (g := (mkF m 2 #[rv a, iv 0] [(.ref a), (.int 0)])) rfl rfl (hb hby dj38m20_2)
  refine og st137 ?_
  obtain ⟨_, _, ⟨T138, L138, k138, n138⟩, -, X138, ⟨Lc138, hQ138, l138, y138, z138⟩, st138⟩ := Jvm.LawKit.callS X137 hx (y := (⟨"java/util/Objects", "checkIndex", "(II)I"⟩ : MethodName)) hown (mvT hZ (ow hw 140 rfl)) (mvT hZ (ow hw 141 rfl)) (mvT hZ (ow hw 142 rfl)) (mvT hZ (ow hw 143 rfl)) (by decide) (backOf (W := 0) (rm_ock0 l Z a0 hw []  h0 n0  Z0 ) hZ (ow hw 143 rfl) (ow hw 142 rfl) (by decide) (by decide)) (g := (mkF m 5 #[rv a, iv 0] [(.int 3), (.int 0)])) rfl (by rw [hml]; rfl) (argsL := [(.int 0), (.int 3)]) (rest := []) (lenOf pd_12 rfl) rfl (by show 2 * 0 + _ ≤ _; exact Nat.le_of_eq rfl) (hb hby dj38m20_5) (fun _ _ => ⟨rfl, e137, nb rfl, nb rfl⟩)
  dsimp only [Pt.U, Pt.locs, Pt.cells, Pt.slots] at X138 l138 y138 z138 st138 hQ138
  rw [l138, y138, z138] at X138
  obtain ⟨rfl, rfl, e138⟩ := hQ138
  have X138 : Stand p l e _ s m #[(.ref a), (.int 0)] below meth c T138 [] 0 0 := X138
  refine og st138 ?_
  refine og (fun _ => XS.pop X138.here hx rfl (hb hby dj38m20_8) rfl rfl) ?_
  refine og (fun _ => XS.aloadN X138.here hx rfl (hb hby dj38m20_9) rfl rfl) ?_
  refine og (fun _ => XS.iloadN X138.here hx rfl (hb hby dj38m20_10) rfl) ?_
  obtain ⟨cq139, kq139, q139a, q139b, q139c⟩ := isOf hZ e138 (V0.exa 0 rfl)
  obtain ⟨_, _, ⟨T139, L139, k139, n139⟩, -, X139, ⟨Lc139, hQ139, l139, y139, z139⟩, st139⟩ := X138.virtualBack hx (y := (⟨"java/util/ArrayList", "elementData", "(I)Ljava/lang/Object;"⟩ : MethodName)) (z := (⟨"java/util/ArrayList", "elementData", "(I)Ljava/lang/Object;"⟩ : MethodName)) hown (mvT hZ (ow hw 148 rfl)) (mvT hZ (ow hw 149 rfl)) (notFace_of_selects (args := #[]) (mvT hZ (ow hw 151 rfl))) (mvT hZ (ow hw 151 rfl)) (mvT hZ (ow hw 150 rfl)) (by decide) (backOf (W := 0) (rm_eld0 l Z a0 hw [] a b x0 x1 x2 h0 n0 _ Z0  V0) hZ (ow hw 152 rfl) (ow hw 11 rfl) (by decide) (by decide)) q139a q139c (g := (mkF m 11 #[rv a, iv 0] [(.int 0), (.ref a)])) rfl (by rw [hml]; rfl) (Steps.refl _) (argsL := [(.int 0)]) (rest := []) (lenOf pd_19 rfl) rfl (by show 2 * 0 + _ ≤ _; exact Nat.le_of_eq rfl) (hb hby dj38m20_11) (fun _ _ => ⟨rfl, e138, nb rfl, nb rfl⟩)
  dsimp only [Pt.U, Pt.locs, Pt.cells, Pt.slots] at X139 l139 y139 z139 st139 hQ139
  rw [l139, y139, z139] at X139
  obtain ⟨rfl, rfl, e139⟩ := hQ139
  have X139 : Stand p l e _ s m #[(.ref a), (.int 0)] below meth c T139 [] 0 0 := X139
  refine OGets.after st139 ?_
  refine OGets.retA X139 hx hlk (t := (.object "java/lang/Object")) Bd.returns rfl rfl rfl (hb hby dj38m20_14) (nb rfl) (nb rfl) ?_
  exact ⟨rfl, rfl, e139⟩
theorem ef_pck1 (m : MethodId) (x0 : Int32) (x1 : Int32) : entryFrame m #[(.int x0), (.int x1), .null] 3 = mkF m 0 #[.val (.int x0), .val (.int x1), .val .null] [] := by first | (simp [entryFrame, mkF, argsToLocals, Value.category]; done) | rfl
def Q_pck1 (Z : State)  (h0 : Heap) (n0 : Nat) (v : Option Value) (h : Heap) (L : List Loc) : Prop := v = some (.int (1 : Int32)) ∧ L = [] ∧ h = h0
set_option maxRecDepth 65536 in
set_option maxHeartbeats 40000000 in
theorem rm_pck1 (l : Launch) (Z : State) (a0 : Array Value) (hw : ∀ d ∈ tables_1, d.before a0 Z = true) (ws : List Jvm.Cond)  (h0 : Heap) (n0 : Nat) (Z0 : n0 ≤ h0.size) :
    MetFree l (⟨"jdk/internal/util/Preconditions", "checkIndex", "(IILjava/util/function/BiFunction;)I"⟩ : MethodName) (head1 (Jvm.Cond.code (⟨"jdk/internal/util/Preconditions", "checkIndex", "(IILjava/util/function/BiFunction;)I"⟩ : MethodName) jdk_41_method_11_code 3 (some .int) :: ws) ({ frames := 0, cells := 0, slots := 0, locals := 0 } : Room)) (fun a_ U => a_ = #[(.int 1), (.int 3), .null] ∧ Z.Warmed39 U.vm ∧ U.heap = h0) (fun _ _ _ _ _ => True) (fun _ U o U' => ∃ v L, o = .returned v ∧ Q_pck1 Z  h0 n0 v U'.heap L ∧ FrameEnd U o U' L ({ frames := 0, cells := 0, slots := 0, locals := 0 } : Room).cells ({ frames := 0, cells := 0, slots := 0, locals := 0 } : Room).slots) := by
  refine MetFree.of_bodySF (plainFor_of_name pn_16) hisR ?_
  intro p e s m args below meth c s₁ Bd hml0 hP hK
  obtain ⟨rfl, hZ, hh⟩ := hP
  have hx := Bd.exec
  have hby := Bd.bytes
  have hlk : meth.locks = false := Bd.notSynchronized
  have hml : c.maxLocals = 3 := hml0
  have hown : s.vm.findClass "jdk/internal/util/Preconditions" = some m.cls := findClass_of_methodNamed Bd.named
  have hnm := (name_of_methodNamed Bd.named Bd.method).1
  have X0 : Stand p l e ({ frames := 0, cells := 0, slots := 0, locals := 0 } : Room) s m #[(.int 1), (.int 3), .null] below meth c s₁ [] 0 0 := Stand.of_body Bd
  have e0 : s₁.heap = h0 := by rw [← hh, Bd.state]; rfl
  have N0 := Fr.nil n0
  show OGets p e below (OLeaves s (Q_pck1 Z  h0 n0 ) ({ frames := 0, cells := 0, slots := 0, locals := 0 } : Room).cells ({ frames := 0, cells := 0, slots := 0, locals := 0 } : Room).slots) _
  refine OGets.enter (ef_pck1 m (1 : Int32) (3 : Int32)) ?_
  show OGets p e below _ (s₁.setTop (mkF m 0 #[iv 1, iv 3, .val .null] []))
  refine og (fun _ => XS.iloadN X0.here hx rfl (hb hby dj41m11_0) rfl) ?_
  refine og (fun _ => XS.ifNo X0.here hx rfl (hb hby dj41m11_1) rfl ((if0 _ _).trans (flt (by decide : ¬ ((1 : Int32) < (0 : Int32)))).1)) ?_
  refine og (fun _ => XS.iloadN X0.here hx rfl (hb hby dj41m11_4) rfl) ?_
  refine og (fun _ => XS.iloadN X0.here hx rfl (hb hby dj41m11_5) rfl) ?_
  refine og (fun _ => XS.icmpYes X0.here hx rfl (pc0 := 6) (pc' := 16) rfl (hb hby dj41m11_6) rfl (tlt (by decide : (1 : Int32) < (3 : Int32))).1 (by decide) (by decide)) ?_
  refine og (fun _ => XS.iloadN X0.here hx rfl (hb hby dj41m11_16) rfl) ?_
  show OGets p e below _ (s₁.setTop (mkF m 17 #[iv 1, iv 3, .val .null] [(.int 1)]))
  refine OGets.retI X0 hx hlk Bd.returns (hb hby dj41m11_17) (nb rfl) (nb rfl) ?_
  exact ⟨rfl, rfl, e0⟩
theorem ef_ock1 (m : MethodId) (x0 : Int32) (x1 : Int32) : entryFrame m #[(.int x0), (.int x1)] 2 = mkF m 0 #[.val (.int x0), .val (.int x1)] [] := by first | (simp [entryFrame, mkF, argsToLocals, Value.category]; done) | rfl
def Q_ock1 (Z : State)  (h0 : Heap) (n0 : Nat) (v : Option Value) (h : Heap) (L : List Loc) : Prop := v = some (.int (1 : Int32)) ∧ L = [] ∧ h = h0
set_option maxRecDepth 65536 in
set_option maxHeartbeats 40000000 in
theorem rm_ock1 (l : Launch) (Z : State) (a0 : Array Value) (hw : ∀ d ∈ tables_1, d.before a0 Z = true) (ws : List Jvm.Cond)  (h0 : Heap) (n0 : Nat) (Z0 : n0 ≤ h0.size) :
    MetFree l (⟨"java/util/Objects", "checkIndex", "(II)I"⟩ : MethodName) (head1 (Jvm.Cond.code (⟨"java/util/Objects", "checkIndex", "(II)I"⟩ : MethodName) jdk_31_method_17_code 2 (some .int) :: ws) ({ frames := 1, cells := 0, slots := 0, locals := 14 } : Room)) (fun a_ U => a_ = #[(.int 1), (.int 3)] ∧ Z.Warmed39 U.vm ∧ U.heap = h0) (fun _ _ _ _ _ => True) (fun _ U o U' => ∃ v L, o = .returned v ∧ Q_ock1 Z  h0 n0 v U'.heap L ∧ FrameEnd U o U' L ({ frames := 1, cells := 0, slots := 0, locals := 14 } : Room).cells ({ frames := 1, cells := 0, slots := 0, locals := 14 } : Room).slots) := by
  refine MetFree.of_bodySF (plainFor_of_name pn_17) hisR ?_
  intro p e s m args below meth c s₁ Bd hml0 hP hK
  obtain ⟨rfl, hZ, hh⟩ := hP
  have hx := Bd.exec
  have hby := Bd.bytes
  have hlk : meth.locks = false := Bd.notSynchronized
  have hml : c.maxLocals = 2 := hml0
  have hown : s.vm.findClass "java/util/Objects" = some m.cls := findClass_of_methodNamed Bd.named
  have hnm := (name_of_methodNamed Bd.named Bd.method).1
  have X0 : Stand p l e ({ frames := 1, cells := 0, slots := 0, locals := 14 } : Room) s m #[(.int 1), (.int 3)] below meth c s₁ [] 0 0 := Stand.of_body Bd
  have e0 : s₁.heap = h0 := by rw [← hh, Bd.state]; rfl
  have N0 := Fr.nil n0
  show OGets p e below (OLeaves s (Q_ock1 Z  h0 n0 ) ({ frames := 1, cells := 0, slots := 0, locals := 14 } : Room).cells ({ frames := 1, cells := 0, slots := 0, locals := 14 } : Room).slots) _
  refine OGets.enter (ef_ock1 m (1 : Int32) (3 : Int32)) ?_
  show OGets p e below _ (s₁.setTop (mkF m 0 #[iv 1, iv 3] []))
  refine og (fun _ => XS.iloadN X0.here hx rfl (hb hby dj31m17_0) rfl) ?_
  refine og (fun _ => XS.iloadN X0.here hx rfl (hb hby dj31m17_1) rfl) ?_
  refine og (fun _ => XS.aconstNull X0.here hx rfl (hb hby dj31m17_2)) ?_
  obtain ⟨_, _, ⟨T142, L142, k142, n142⟩, -, X142, ⟨Lc142, hQ142, l142, y142, z142⟩, st142⟩ := Jvm.LawKit.callS X0 hx (y := (⟨"jdk/internal/util/Preconditions", "checkIndex", "(IILjava/util/function/BiFunction;)I"⟩ : MethodName)) hown (mvT hZ (ow hw 144 rfl)) (mvT hZ (ow hw 145 rfl)) (mvT hZ (ow hw 146 rfl)) (mvT hZ (ow hw 147 rfl)) (by decide) (backOf (W := 0) (rm_pck1 l Z a0 hw []  h0 n0  Z0 ) hZ (ow hw 147 rfl) (ow hw 146 rfl) (by decide) (by decide)) (g := (mkF m 3 #[iv 1, iv 3] [.null, (.int 3), (.int 1)])) rfl (by rw [hml]; rfl) (argsL := [(.int 1), (.int 3), .null]) (rest := []) (lenOf pd_18 rfl) rfl (by show 2 * 0 + _ ≤ _; exact Nat.le_of_eq rfl) (hb hby dj31m17_3) (fun _ _ => ⟨rfl, e0, nb rfl, nb rfl⟩)
  dsimp only [Pt.U, Pt.locs, Pt.cells, Pt.slots] at X142 l142 y142 z142 st142 hQ142
  rw [l142, y142, z142] at X142
  obtain ⟨rfl, rfl, e142⟩ := hQ142
  have X142 : Stand p l e _ s m #[(.int 1), (.int 3)] below meth c T142 [] 0 0 := X142
  refine og st142 ?_
  refine OGets.retI X142 hx hlk Bd.returns (hb hby dj31m17_6) (nb rfl) (nb rfl) ?_
  exact ⟨rfl, rfl, e142⟩
theorem ef_eld1 (m : MethodId) (x0 : Addr) (x1 : Int32) : entryFrame m #[(.ref x0), (.int x1)] 2 = mkF m 0 #[.val (.ref x0), .val (.int x1)] [] := by first | (simp [entryFrame, mkF, argsToLocals, Value.category]; done) | rfl
def Q_eld1 (Z : State) (a : Addr) (b : Addr) (x0 : Addr) (x1 : Addr) (x2 : Addr) (h0 : Heap) (n0 : Nat) (F : List (Addr × OObj)) (v : Option Value) (h : Heap) (L : List Loc) : Prop := v = some (.ref x1) ∧ L = [] ∧ h = h0
set_option maxRecDepth 65536 in
set_option maxHeartbeats 40000000 in
theorem rm_eld1 (l : Launch) (Z : State) (a0 : Array Value) (hw : ∀ d ∈ tables_1, d.before a0 Z = true) (ws : List Jvm.Cond) (a : Addr) (b : Addr) (x0 : Addr) (x1 : Addr) (x2 : Addr) (h0 : Heap) (n0 : Nat) (F : List (Addr × OObj)) (Z0 : n0 ≤ h0.size) (V0 : OView Z n0 h0 (oL a [(.int 3), (.ref b), (.int 3)] :: oO3 b x0 x1 x2 :: F)) :
    MetFree l (⟨"java/util/ArrayList", "elementData", "(I)Ljava/lang/Object;"⟩ : MethodName) (head1 (Jvm.Cond.code (⟨"java/util/ArrayList", "elementData", "(I)Ljava/lang/Object;"⟩ : MethodName) jdk_38_method_18_code 2 (some (.object "java/lang/Object")) :: ws) ({ frames := 0, cells := 0, slots := 0, locals := 0 } : Room)) (fun a_ U => a_ = #[(.ref a), (.int 1)] ∧ Z.Warmed39 U.vm ∧ U.heap = h0) (fun _ _ _ _ _ => True) (fun _ U o U' => ∃ v L, o = .returned v ∧ Q_eld1 Z a b x0 x1 x2 h0 n0 F v U'.heap L ∧ FrameEnd U o U' L ({ frames := 0, cells := 0, slots := 0, locals := 0 } : Room).cells ({ frames := 0, cells := 0, slots := 0, locals := 0 } : Room).slots) := by
  refine MetFree.of_bodySF (plainFor_of_name pn_8) hisR ?_
  intro p e s m args below meth c s₁ Bd hml0 hP hK
  obtain ⟨rfl, hZ, hh⟩ := hP
  have hx := Bd.exec
  have hby := Bd.bytes
  have hlk : meth.locks = false := Bd.notSynchronized
  have hml : c.maxLocals = 2 := hml0
  have hown : s.vm.findClass "java/util/ArrayList" = some m.cls := findClass_of_methodNamed Bd.named
  have hnm := (name_of_methodNamed Bd.named Bd.method).1
  have X0 : Stand p l e ({ frames := 0, cells := 0, slots := 0, locals := 0 } : Room) s m #[(.ref a), (.int 1)] below meth c s₁ [] 0 0 := Stand.of_body Bd
  have e0 : s₁.heap = h0 := by rw [← hh, Bd.state]; rfl
  have N0 := Fr.nil n0
  show OGets p e below (OLeaves s (Q_eld1 Z a b x0 x1 x2 h0 n0 F ) ({ frames := 0, cells := 0, slots := 0, locals := 0 } : Room).cells ({ frames := 0, cells := 0, slots := 0, locals := 0 } : Room).slots) _
  refine OGets.enter (ef_eld1 m a (1 : Int32)) ?_
  show OGets p e below _ (s₁.setTop (mkF m 0 #[rv a, iv 1] []))
  refine og (fun _ => XS.aloadN X0.here hx rfl (hb hby dj38m18_0) rfl rfl) ?_
  obtain ⟨T143, X143, e143, st143⟩ := getF X0 hx hZ hown (host := "") (Or.inl (ow hw 33 rfl)) Via.refl e0 (V0.fld 0 rfl 1 rfl rfl) (g := (mkF m 1 #[rv a, iv 1] [(.ref a)])) rfl rfl (hb hby dj38m18_1)
  refine og st143 ?_
  refine og (fun _ => XS.iloadN X143.here hx rfl (hb hby dj38m18_4) rfl) ?_
  obtain ⟨cl144, Ar144, S144⟩ := V0.arr 1 rfl
  refine og (fun _ => X143.aaload hx (j := (1 : Int32)) (v := (.ref x1)) (by rw [e143]; exact Ar144.1) (State.isArrayOf_alike hZ.alike Ar144.2.1) rfl Ar144.2.2 (own_inb S144 1 (by decide) (nb rfl)) (own_get S144 1 (by decide) rfl) (g := (mkF m 5 #[rv a, iv 1] [(.int 1), (.ref b)])) rfl rfl (hb hby dj38m18_5) _) ?_
  refine OGets.retA X143 hx hlk (t := (.object "java/lang/Object")) Bd.returns rfl rfl rfl (hb hby dj38m18_6) (nb rfl) (nb rfl) ?_
  exact ⟨rfl, rfl, e143⟩
theorem ef_get1 (m : MethodId) (x0 : Addr) (x1 : Int32) : entryFrame m #[(.ref x0), (.int x1)] 2 = mkF m 0 #[.val (.ref x0), .val (.int x1)] [] := by first | (simp [entryFrame, mkF, argsToLocals, Value.category]; done) | rfl
def Q_get1 (Z : State) (a : Addr) (b : Addr) (x0 : Addr) (x1 : Addr) (x2 : Addr) (h0 : Heap) (n0 : Nat) (F : List (Addr × OObj)) (v : Option Value) (h : Heap) (L : List Loc) : Prop := v = some (.ref x1) ∧ L = [] ∧ h = h0
set_option maxRecDepth 65536 in
set_option maxHeartbeats 40000000 in
theorem rm_get1 (l : Launch) (Z : State) (a0 : Array Value) (hw : ∀ d ∈ tables_1, d.before a0 Z = true) (ws : List Jvm.Cond) (a : Addr) (b : Addr) (x0 : Addr) (x1 : Addr) (x2 : Addr) (h0 : Heap) (n0 : Nat) (F : List (Addr × OObj)) (Z0 : n0 ≤ h0.size) (V0 : OView Z n0 h0 (oL a [(.int 3), (.ref b), (.int 3)] :: oO3 b x0 x1 x2 :: F)) :
    MetFree l (⟨"java/util/ArrayList", "get", "(I)Ljava/lang/Object;"⟩ : MethodName) (head1 (Jvm.Cond.code (⟨"java/util/ArrayList", "get", "(I)Ljava/lang/Object;"⟩ : MethodName) jdk_38_method_20_code 2 (some (.object "java/lang/Object")) :: ws) ({ frames := 2, cells := 0, slots := 0, locals := 27 } : Room)) (fun a_ U => a_ = #[(.ref a), (.int 1)] ∧ Z.Warmed39 U.vm ∧ U.heap = h0) (fun _ _ _ _ _ => True) (fun _ U o U' => ∃ v L, o = .returned v ∧ Q_get1 Z a b x0 x1 x2 h0 n0 F v U'.heap L ∧ FrameEnd U o U' L ({ frames := 2, cells := 0, slots := 0, locals := 27 } : Room).cells ({ frames := 2, cells := 0, slots := 0, locals := 27 } : Room).slots) := by
  refine MetFree.of_bodySF (plainFor_of_name pn_8) hisR ?_
  intro p e s m args below meth c s₁ Bd hml0 hP hK
  obtain ⟨rfl, hZ, hh⟩ := hP
  have hx := Bd.exec
  have hby := Bd.bytes
  have hlk : meth.locks = false := Bd.notSynchronized
  have hml : c.maxLocals = 2 := hml0
  have hown : s.vm.findClass "java/util/ArrayList" = some m.cls := findClass_of_methodNamed Bd.named
  have hnm := (name_of_methodNamed Bd.named Bd.method).1
  have X0 : Stand p l e ({ frames := 2, cells := 0, slots := 0, locals := 27 } : Room) s m #[(.ref a), (.int 1)] below meth c s₁ [] 0 0 := Stand.of_body Bd
  have e0 : s₁.heap = h0 := by rw [← hh, Bd.state]; rfl
  have N0 := Fr.nil n0
  show OGets p e below (OLeaves s (Q_get1 Z a b x0 x1 x2 h0 n0 F ) ({ frames := 2, cells := 0, slots := 0, locals := 27 } : Room).cells ({ frames := 2, cells := 0, slots := 0, locals := 27 } : Room).slots) _
  refine OGets.enter (ef_get1 m a (1 : Int32)) ?_
  show OGets p e below _ (s₁.setTop (mkF m 0 #[rv a, iv 1] []))
  refine og (fun _ => XS.iloadN X0.here hx rfl (hb hby dj38m20_0) rfl) ?_
  refine og (fun _ => XS.aloadN X0.here hx rfl (hb hby dj38m20_1) rfl rfl) ?_
  obtain ⟨T145, X145, e145, st145⟩ := getF X0 hx hZ hown (host := "") (Or.inl (ow hw 80 rfl)) Via.refl e0 (V0.fld 0 rfl 2 rfl rfl) (g := (mkF m 2 #[rv a, iv 1] [(.ref a), (.int 1)])) rfl rfl (hb hby dj38m20_2)
  refine og st145 ?_
  obtain ⟨_, _, ⟨T146, L146, k146, n146⟩, -, X146, ⟨Lc146, hQ146, l146, y146, z146⟩, st146⟩ := Jvm.LawKit.callS X145 hx (y := (⟨"java/util/Objects", "checkIndex", "(II)I"⟩ : MethodName)) hown (mvT hZ (ow hw 140 rfl)) (mvT hZ (ow hw 141 rfl)) (mvT hZ (ow hw 142 rfl)) (mvT hZ (ow hw 143 rfl)) (by decide) (backOf (W := 0) (rm_ock1 l Z a0 hw []  h0 n0  Z0 ) hZ (ow hw 143 rfl) (ow hw 142 rfl) (by decide) (by decide)) (g := (mkF m 5 #[rv a, iv 1] [(.int 3), (.int 1)])) rfl (by rw [hml]; rfl) (argsL := [(.int 1), (.int 3)]) (rest := []) (lenOf pd_12 rfl) rfl (by show 2 * 0 + _ ≤ _; exact Nat.le_of_eq rfl) (hb hby dj38m20_5) (fun _ _ => ⟨rfl, e145, nb rfl, nb rfl⟩)
  dsimp only [Pt.U, Pt.locs, Pt.cells, Pt.slots] at X146 l146 y146 z146 st146 hQ146
  rw [l146, y146, z146] at X146
  obtain ⟨rfl, rfl, e146⟩ := hQ146
  have X146 : Stand p l e _ s m #[(.ref a), (.int 1)] below meth c T146 [] 0 0 := X146
  refine og st146 ?_
  refine og (fun _ => XS.pop X146.here hx rfl (hb hby dj38m20_8) rfl rfl) ?_
  refine og (fun _ => XS.aloadN X146.here hx rfl (hb hby dj38m20_9) rfl rfl) ?_
  refine og (fun _ => XS.iloadN X146.here hx rfl (hb hby dj38m20_10) rfl) ?_
  obtain ⟨cq147, kq147, q147a, q147b, q147c⟩ := isOf hZ e146 (V0.exa 0 rfl)
  obtain ⟨_, _, ⟨T147, L147, k147, n147⟩, -, X147, ⟨Lc147, hQ147, l147, y147, z147⟩, st147⟩ := X146.virtualBack hx (y := (⟨"java/util/ArrayList", "elementData", "(I)Ljava/lang/Object;"⟩ : MethodName)) (z := (⟨"java/util/ArrayList", "elementData", "(I)Ljava/lang/Object;"⟩ : MethodName)) hown (mvT hZ (ow hw 148 rfl)) (mvT hZ (ow hw 149 rfl)) (notFace_of_selects (args := #[]) (mvT hZ (ow hw 151 rfl))) (mvT hZ (ow hw 151 rfl)) (mvT hZ (ow hw 150 rfl)) (by decide) (backOf (W := 0) (rm_eld1 l Z a0 hw [] a b x0 x1 x2 h0 n0 _ Z0  V0) hZ (ow hw 152 rfl) (ow hw 11 rfl) (by decide) (by decide)) q147a q147c (g := (mkF m 11 #[rv a, iv 1] [(.int 1), (.ref a)])) rfl (by rw [hml]; rfl) (Steps.refl _) (argsL := [(.int 1)]) (rest := []) (lenOf pd_19 rfl) rfl (by show 2 * 0 + _ ≤ _; exact Nat.le_of_eq rfl) (hb hby dj38m20_11) (fun _ _ => ⟨rfl, e146, nb rfl, nb rfl⟩)
  dsimp only [Pt.U, Pt.locs, Pt.cells, Pt.slots] at X147 l147 y147 z147 st147 hQ147
  rw [l147, y147, z147] at X147
  obtain ⟨rfl, rfl, e147⟩ := hQ147
  have X147 : Stand p l e _ s m #[(.ref a), (.int 1)] below meth c T147 [] 0 0 := X147
  refine OGets.after st147 ?_
  refine OGets.retA X147 hx hlk (t := (.object "java/lang/Object")) Bd.returns rfl rfl rfl (hb hby dj38m20_14) (nb rfl) (nb rfl) ?_
  exact ⟨rfl, rfl, e147⟩
theorem ef_pck2 (m : MethodId) (x0 : Int32) (x1 : Int32) : entryFrame m #[(.int x0), (.int x1), .null] 3 = mkF m 0 #[.val (.int x0), .val (.int x1), .val .null] [] := by first | (simp [entryFrame, mkF, argsToLocals, Value.category]; done) | rfl
def Q_pck2 (Z : State)  (h0 : Heap) (n0 : Nat) (v : Option Value) (h : Heap) (L : List Loc) : Prop := v = some (.int (2 : Int32)) ∧ L = [] ∧ h = h0
set_option maxRecDepth 65536 in
set_option maxHeartbeats 40000000 in
theorem rm_pck2 (l : Launch) (Z : State) (a0 : Array Value) (hw : ∀ d ∈ tables_1, d.before a0 Z = true) (ws : List Jvm.Cond)  (h0 : Heap) (n0 : Nat) (Z0 : n0 ≤ h0.size) :
    MetFree l (⟨"jdk/internal/util/Preconditions", "checkIndex", "(IILjava/util/function/BiFunction;)I"⟩ : MethodName) (head1 (Jvm.Cond.code (⟨"jdk/internal/util/Preconditions", "checkIndex", "(IILjava/util/function/BiFunction;)I"⟩ : MethodName) jdk_41_method_11_code 3 (some .int) :: ws) ({ frames := 0, cells := 0, slots := 0, locals := 0 } : Room)) (fun a_ U => a_ = #[(.int 2), (.int 3), .null] ∧ Z.Warmed39 U.vm ∧ U.heap = h0) (fun _ _ _ _ _ => True) (fun _ U o U' => ∃ v L, o = .returned v ∧ Q_pck2 Z  h0 n0 v U'.heap L ∧ FrameEnd U o U' L ({ frames := 0, cells := 0, slots := 0, locals := 0 } : Room).cells ({ frames := 0, cells := 0, slots := 0, locals := 0 } : Room).slots) := by
  refine MetFree.of_bodySF (plainFor_of_name pn_16) hisR ?_
  intro p e s m args below meth c s₁ Bd hml0 hP hK
  obtain ⟨rfl, hZ, hh⟩ := hP
  have hx := Bd.exec
  have hby := Bd.bytes
  have hlk : meth.locks = false := Bd.notSynchronized
  have hml : c.maxLocals = 3 := hml0
  have hown : s.vm.findClass "jdk/internal/util/Preconditions" = some m.cls := findClass_of_methodNamed Bd.named
  have hnm := (name_of_methodNamed Bd.named Bd.method).1
  have X0 : Stand p l e ({ frames := 0, cells := 0, slots := 0, locals := 0 } : Room) s m #[(.int 2), (.int 3), .null] below meth c s₁ [] 0 0 := Stand.of_body Bd
  have e0 : s₁.heap = h0 := by rw [← hh, Bd.state]; rfl
  have N0 := Fr.nil n0
  show OGets p e below (OLeaves s (Q_pck2 Z  h0 n0 ) ({ frames := 0, cells := 0, slots := 0, locals := 0 } : Room).cells ({ frames := 0, cells := 0, slots := 0, locals := 0 } : Room).slots) _
  refine OGets.enter (ef_pck2 m (2 : Int32) (3 : Int32)) ?_
  show OGets p e below _ (s₁.setTop (mkF m 0 #[iv 2, iv 3, .val .null] []))
  refine og (fun _ => XS.iloadN X0.here hx rfl (hb hby dj41m11_0) rfl) ?_
  refine og (fun _ => XS.ifNo X0.here hx rfl (hb hby dj41m11_1) rfl ((if0 _ _).trans (flt (by decide : ¬ ((2 : Int32) < (0 : Int32)))).1)) ?_
  refine og (fun _ => XS.iloadN X0.here hx rfl (hb hby dj41m11_4) rfl) ?_
  refine og (fun _ => XS.iloadN X0.here hx rfl (hb hby dj41m11_5) rfl) ?_
  refine og (fun _ => XS.icmpYes X0.here hx rfl (pc0 := 6) (pc' := 16) rfl (hb hby dj41m11_6) rfl (tlt (by decide : (2 : Int32) < (3 : Int32))).1 (by decide) (by decide)) ?_
  refine og (fun _ => XS.iloadN X0.here hx rfl (hb hby dj41m11_16) rfl) ?_
  show OGets p e below _ (s₁.setTop (mkF m 17 #[iv 2, iv 3, .val .null] [(.int 2)]))
  refine OGets.retI X0 hx hlk Bd.returns (hb hby dj41m11_17) (nb rfl) (nb rfl) ?_
  exact ⟨rfl, rfl, e0⟩
theorem ef_ock2 (m : MethodId) (x0 : Int32) (x1 : Int32) : entryFrame m #[(.int x0), (.int x1)] 2 = mkF m 0 #[.val (.int x0), .val (.int x1)] [] := by first | (simp [entryFrame, mkF, argsToLocals, Value.category]; done) | rfl
def Q_ock2 (Z : State)  (h0 : Heap) (n0 : Nat) (v : Option Value) (h : Heap) (L : List Loc) : Prop := v = some (.int (2 : Int32)) ∧ L = [] ∧ h = h0
set_option maxRecDepth 65536 in
set_option maxHeartbeats 40000000 in
theorem rm_ock2 (l : Launch) (Z : State) (a0 : Array Value) (hw : ∀ d ∈ tables_1, d.before a0 Z = true) (ws : List Jvm.Cond)  (h0 : Heap) (n0 : Nat) (Z0 : n0 ≤ h0.size) :
    MetFree l (⟨"java/util/Objects", "checkIndex", "(II)I"⟩ : MethodName) (head1 (Jvm.Cond.code (⟨"java/util/Objects", "checkIndex", "(II)I"⟩ : MethodName) jdk_31_method_17_code 2 (some .int) :: ws) ({ frames := 1, cells := 0, slots := 0, locals := 14 } : Room)) (fun a_ U => a_ = #[(.int 2), (.int 3)] ∧ Z.Warmed39 U.vm ∧ U.heap = h0) (fun _ _ _ _ _ => True) (fun _ U o U' => ∃ v L, o = .returned v ∧ Q_ock2 Z  h0 n0 v U'.heap L ∧ FrameEnd U o U' L ({ frames := 1, cells := 0, slots := 0, locals := 14 } : Room).cells ({ frames := 1, cells := 0, slots := 0, locals := 14 } : Room).slots) := by
  refine MetFree.of_bodySF (plainFor_of_name pn_17) hisR ?_
  intro p e s m args below meth c s₁ Bd hml0 hP hK
  obtain ⟨rfl, hZ, hh⟩ := hP
  have hx := Bd.exec
  have hby := Bd.bytes
  have hlk : meth.locks = false := Bd.notSynchronized
  have hml : c.maxLocals = 2 := hml0
  have hown : s.vm.findClass "java/util/Objects" = some m.cls := findClass_of_methodNamed Bd.named
  have hnm := (name_of_methodNamed Bd.named Bd.method).1
  have X0 : Stand p l e ({ frames := 1, cells := 0, slots := 0, locals := 14 } : Room) s m #[(.int 2), (.int 3)] below meth c s₁ [] 0 0 := Stand.of_body Bd
  have e0 : s₁.heap = h0 := by rw [← hh, Bd.state]; rfl
  have N0 := Fr.nil n0
  show OGets p e below (OLeaves s (Q_ock2 Z  h0 n0 ) ({ frames := 1, cells := 0, slots := 0, locals := 14 } : Room).cells ({ frames := 1, cells := 0, slots := 0, locals := 14 } : Room).slots) _
  refine OGets.enter (ef_ock2 m (2 : Int32) (3 : Int32)) ?_
  show OGets p e below _ (s₁.setTop (mkF m 0 #[iv 2, iv 3] []))
  refine og (fun _ => XS.iloadN X0.here hx rfl (hb hby dj31m17_0) rfl) ?_
  refine og (fun _ => XS.iloadN X0.here hx rfl (hb hby dj31m17_1) rfl) ?_
  refine og (fun _ => XS.aconstNull X0.here hx rfl (hb hby dj31m17_2)) ?_
  obtain ⟨_, _, ⟨T150, L150, k150, n150⟩, -, X150, ⟨Lc150, hQ150, l150, y150, z150⟩, st150⟩ := Jvm.LawKit.callS X0 hx (y := (⟨"jdk/internal/util/Preconditions", "checkIndex", "(IILjava/util/function/BiFunction;)I"⟩ : MethodName)) hown (mvT hZ (ow hw 144 rfl)) (mvT hZ (ow hw 145 rfl)) (mvT hZ (ow hw 146 rfl)) (mvT hZ (ow hw 147 rfl)) (by decide) (backOf (W := 0) (rm_pck2 l Z a0 hw []  h0 n0  Z0 ) hZ (ow hw 147 rfl) (ow hw 146 rfl) (by decide) (by decide)) (g := (mkF m 3 #[iv 2, iv 3] [.null, (.int 3), (.int 2)])) rfl (by rw [hml]; rfl) (argsL := [(.int 2), (.int 3), .null]) (rest := []) (lenOf pd_18 rfl) rfl (by show 2 * 0 + _ ≤ _; exact Nat.le_of_eq rfl) (hb hby dj31m17_3) (fun _ _ => ⟨rfl, e0, nb rfl, nb rfl⟩)
  dsimp only [Pt.U, Pt.locs, Pt.cells, Pt.slots] at X150 l150 y150 z150 st150 hQ150
  rw [l150, y150, z150] at X150
  obtain ⟨rfl, rfl, e150⟩ := hQ150
  have X150 : Stand p l e _ s m #[(.int 2), (.int 3)] below meth c T150 [] 0 0 := X150
  refine og st150 ?_
  refine OGets.retI X150 hx hlk Bd.returns (hb hby dj31m17_6) (nb rfl) (nb rfl) ?_
  exact ⟨rfl, rfl, e150⟩
theorem ef_eld2 (m : MethodId) (x0 : Addr) (x1 : Int32) : entryFrame m #[(.ref x0), (.int x1)] 2 = mkF m 0 #[.val (.ref x0), .val (.int x1)] [] := by first | (simp [entryFrame, mkF, argsToLocals, Value.category]; done) | rfl
def Q_eld2 (Z : State) (a : Addr) (b : Addr) (x0 : Addr) (x1 : Addr) (x2 : Addr) (h0 : Heap) (n0 : Nat) (F : List (Addr × OObj)) (v : Option Value) (h : Heap) (L : List Loc) : Prop := v = some (.ref x2) ∧ L = [] ∧ h = h0
set_option maxRecDepth 65536 in
set_option maxHeartbeats 40000000 in
theorem rm_eld2 (l : Launch) (Z : State) (a0 : Array Value) (hw : ∀ d ∈ tables_1, d.before a0 Z = true) (ws : List Jvm.Cond) (a : Addr) (b : Addr) (x0 : Addr) (x1 : Addr) (x2 : Addr) (h0 : Heap) (n0 : Nat) (F : List (Addr × OObj)) (Z0 : n0 ≤ h0.size) (V0 : OView Z n0 h0 (oL a [(.int 3), (.ref b), (.int 3)] :: oO3 b x0 x1 x2 :: F)) :
    MetFree l (⟨"java/util/ArrayList", "elementData", "(I)Ljava/lang/Object;"⟩ : MethodName) (head1 (Jvm.Cond.code (⟨"java/util/ArrayList", "elementData", "(I)Ljava/lang/Object;"⟩ : MethodName) jdk_38_method_18_code 2 (some (.object "java/lang/Object")) :: ws) ({ frames := 0, cells := 0, slots := 0, locals := 0 } : Room)) (fun a_ U => a_ = #[(.ref a), (.int 2)] ∧ Z.Warmed39 U.vm ∧ U.heap = h0) (fun _ _ _ _ _ => True) (fun _ U o U' => ∃ v L, o = .returned v ∧ Q_eld2 Z a b x0 x1 x2 h0 n0 F v U'.heap L ∧ FrameEnd U o U' L ({ frames := 0, cells := 0, slots := 0, locals := 0 } : Room).cells ({ frames := 0, cells := 0, slots := 0, locals := 0 } : Room).slots) := by
  refine MetFree.of_bodySF (plainFor_of_name pn_8) hisR ?_
  intro p e s m args below meth c s₁ Bd hml0 hP hK
  obtain ⟨rfl, hZ, hh⟩ := hP
  have hx := Bd.exec
  have hby := Bd.bytes
  have hlk : meth.locks = false := Bd.notSynchronized
  have hml : c.maxLocals = 2 := hml0
  have hown : s.vm.findClass "java/util/ArrayList" = some m.cls := findClass_of_methodNamed Bd.named
  have hnm := (name_of_methodNamed Bd.named Bd.method).1
  have X0 : Stand p l e ({ frames := 0, cells := 0, slots := 0, locals := 0 } : Room) s m #[(.ref a), (.int 2)] below meth c s₁ [] 0 0 := Stand.of_body Bd
  have e0 : s₁.heap = h0 := by rw [← hh, Bd.state]; rfl
  have N0 := Fr.nil n0
  show OGets p e below (OLeaves s (Q_eld2 Z a b x0 x1 x2 h0 n0 F ) ({ frames := 0, cells := 0, slots := 0, locals := 0 } : Room).cells ({ frames := 0, cells := 0, slots := 0, locals := 0 } : Room).slots) _
  refine OGets.enter (ef_eld2 m a (2 : Int32)) ?_
  show OGets p e below _ (s₁.setTop (mkF m 0 #[rv a, iv 2] []))
  refine og (fun _ => XS.aloadN X0.here hx rfl (hb hby dj38m18_0) rfl rfl) ?_
  obtain ⟨T151, X151, e151, st151⟩ := getF X0 hx hZ hown (host := "") (Or.inl (ow hw 33 rfl)) Via.refl e0 (V0.fld 0 rfl 1 rfl rfl) (g := (mkF m 1 #[rv a, iv 2] [(.ref a)])) rfl rfl (hb hby dj38m18_1)
  refine og st151 ?_
  refine og (fun _ => XS.iloadN X151.here hx rfl (hb hby dj38m18_4) rfl) ?_
  obtain ⟨cl152, Ar152, S152⟩ := V0.arr 1 rfl
  refine og (fun _ => X151.aaload hx (j := (2 : Int32)) (v := (.ref x2)) (by rw [e151]; exact Ar152.1) (State.isArrayOf_alike hZ.alike Ar152.2.1) rfl Ar152.2.2 (own_inb S152 2 (by decide) (nb rfl)) (own_get S152 2 (by decide) rfl) (g := (mkF m 5 #[rv a, iv 2] [(.int 2), (.ref b)])) rfl rfl (hb hby dj38m18_5) _) ?_
  refine OGets.retA X151 hx hlk (t := (.object "java/lang/Object")) Bd.returns rfl rfl rfl (hb hby dj38m18_6) (nb rfl) (nb rfl) ?_
  exact ⟨rfl, rfl, e151⟩
theorem ef_get2 (m : MethodId) (x0 : Addr) (x1 : Int32) : entryFrame m #[(.ref x0), (.int x1)] 2 = mkF m 0 #[.val (.ref x0), .val (.int x1)] [] := by first | (simp [entryFrame, mkF, argsToLocals, Value.category]; done) | rfl
def Q_get2 (Z : State) (a : Addr) (b : Addr) (x0 : Addr) (x1 : Addr) (x2 : Addr) (h0 : Heap) (n0 : Nat) (F : List (Addr × OObj)) (v : Option Value) (h : Heap) (L : List Loc) : Prop := v = some (.ref x2) ∧ L = [] ∧ h = h0
set_option maxRecDepth 65536 in
set_option maxHeartbeats 40000000 in
theorem rm_get2 (l : Launch) (Z : State) (a0 : Array Value) (hw : ∀ d ∈ tables_1, d.before a0 Z = true) (ws : List Jvm.Cond) (a : Addr) (b : Addr) (x0 : Addr) (x1 : Addr) (x2 : Addr) (h0 : Heap) (n0 : Nat) (F : List (Addr × OObj)) (Z0 : n0 ≤ h0.size) (V0 : OView Z n0 h0 (oL a [(.int 3), (.ref b), (.int 3)] :: oO3 b x0 x1 x2 :: F)) :
    MetFree l (⟨"java/util/ArrayList", "get", "(I)Ljava/lang/Object;"⟩ : MethodName) (head1 (Jvm.Cond.code (⟨"java/util/ArrayList", "get", "(I)Ljava/lang/Object;"⟩ : MethodName) jdk_38_method_20_code 2 (some (.object "java/lang/Object")) :: ws) ({ frames := 2, cells := 0, slots := 0, locals := 27 } : Room)) (fun a_ U => a_ = #[(.ref a), (.int 2)] ∧ Z.Warmed39 U.vm ∧ U.heap = h0) (fun _ _ _ _ _ => True) (fun _ U o U' => ∃ v L, o = .returned v ∧ Q_get2 Z a b x0 x1 x2 h0 n0 F v U'.heap L ∧ FrameEnd U o U' L ({ frames := 2, cells := 0, slots := 0, locals := 27 } : Room).cells ({ frames := 2, cells := 0, slots := 0, locals := 27 } : Room).slots) := by
  refine MetFree.of_bodySF (plainFor_of_name pn_8) hisR ?_
  intro p e s m args below meth c s₁ Bd hml0 hP hK
  obtain ⟨rfl, hZ, hh⟩ := hP
  have hx := Bd.exec
  have hby := Bd.bytes
  have hlk : meth.locks = false := Bd.notSynchronized
  have hml : c.maxLocals = 2 := hml0
  have hown : s.vm.findClass "java/util/ArrayList" = some m.cls := findClass_of_methodNamed Bd.named
  have hnm := (name_of_methodNamed Bd.named Bd.method).1
  have X0 : Stand p l e ({ frames := 2, cells := 0, slots := 0, locals := 27 } : Room) s m #[(.ref a), (.int 2)] below meth c s₁ [] 0 0 := Stand.of_body Bd
  have e0 : s₁.heap = h0 := by rw [← hh, Bd.state]; rfl
  have N0 := Fr.nil n0
  show OGets p e below (OLeaves s (Q_get2 Z a b x0 x1 x2 h0 n0 F ) ({ frames := 2, cells := 0, slots := 0, locals := 27 } : Room).cells ({ frames := 2, cells := 0, slots := 0, locals := 27 } : Room).slots) _
  refine OGets.enter (ef_get2 m a (2 : Int32)) ?_
  show OGets p e below _ (s₁.setTop (mkF m 0 #[rv a, iv 2] []))
  refine og (fun _ => XS.iloadN X0.here hx rfl (hb hby dj38m20_0) rfl) ?_
  refine og (fun _ => XS.aloadN X0.here hx rfl (hb hby dj38m20_1) rfl rfl) ?_
  obtain ⟨T153, X153, e153, st153⟩ := getF X0 hx hZ hown (host := "") (Or.inl (ow hw 80 rfl)) Via.refl e0 (V0.fld 0 rfl 2 rfl rfl) (g := (mkF m 2 #[rv a, iv 2] [(.ref a), (.int 2)])) rfl rfl (hb hby dj38m20_2)
  refine og st153 ?_
  obtain ⟨_, _, ⟨T154, L154, k154, n154⟩, -, X154, ⟨Lc154, hQ154, l154, y154, z154⟩, st154⟩ := Jvm.LawKit.callS X153 hx (y := (⟨"java/util/Objects", "checkIndex", "(II)I"⟩ : MethodName)) hown (mvT hZ (ow hw 140 rfl)) (mvT hZ (ow hw 141 rfl)) (mvT hZ (ow hw 142 rfl)) (mvT hZ (ow hw 143 rfl)) (by decide) (backOf (W := 0) (rm_ock2 l Z a0 hw []  h0 n0  Z0 ) hZ (ow hw 143 rfl) (ow hw 142 rfl) (by decide) (by decide)) (g := (mkF m 5 #[rv a, iv 2] [(.int 3), (.int 2)])) rfl (by rw [hml]; rfl) (argsL := [(.int 2), (.int 3)]) (rest := []) (lenOf pd_12 rfl) rfl (by show 2 * 0 + _ ≤ _; exact Nat.le_of_eq rfl) (hb hby dj38m20_5) (fun _ _ => ⟨rfl, e153, nb rfl, nb rfl⟩)
  dsimp only [Pt.U, Pt.locs, Pt.cells, Pt.slots] at X154 l154 y154 z154 st154 hQ154
  rw [l154, y154, z154] at X154
  obtain ⟨rfl, rfl, e154⟩ := hQ154
  have X154 : Stand p l e _ s m #[(.ref a), (.int 2)] below meth c T154 [] 0 0 := X154
  refine og st154 ?_
  refine og (fun _ => XS.pop X154.here hx rfl (hb hby dj38m20_8) rfl rfl) ?_
  refine og (fun _ => XS.aloadN X154.here hx rfl (hb hby dj38m20_9) rfl rfl) ?_
  refine og (fun _ => XS.iloadN X154.here hx rfl (hb hby dj38m20_10) rfl) ?_
  obtain ⟨cq155, kq155, q155a, q155b, q155c⟩ := isOf hZ e154 (V0.exa 0 rfl)
  obtain ⟨_, _, ⟨T155, L155, k155, n155⟩, -, X155, ⟨Lc155, hQ155, l155, y155, z155⟩, st155⟩ := X154.virtualBack hx (y := (⟨"java/util/ArrayList", "elementData", "(I)Ljava/lang/Object;"⟩ : MethodName)) (z := (⟨"java/util/ArrayList", "elementData", "(I)Ljava/lang/Object;"⟩ : MethodName)) hown (mvT hZ (ow hw 148 rfl)) (mvT hZ (ow hw 149 rfl)) (notFace_of_selects (args := #[]) (mvT hZ (ow hw 151 rfl))) (mvT hZ (ow hw 151 rfl)) (mvT hZ (ow hw 150 rfl)) (by decide) (backOf (W := 0) (rm_eld2 l Z a0 hw [] a b x0 x1 x2 h0 n0 _ Z0  V0) hZ (ow hw 152 rfl) (ow hw 11 rfl) (by decide) (by decide)) q155a q155c (g := (mkF m 11 #[rv a, iv 2] [(.int 2), (.ref a)])) rfl (by rw [hml]; rfl) (Steps.refl _) (argsL := [(.int 2)]) (rest := []) (lenOf pd_19 rfl) rfl (by show 2 * 0 + _ ≤ _; exact Nat.le_of_eq rfl) (hb hby dj38m20_11) (fun _ _ => ⟨rfl, e154, nb rfl, nb rfl⟩)
  dsimp only [Pt.U, Pt.locs, Pt.cells, Pt.slots] at X155 l155 y155 z155 st155 hQ155
  rw [l155, y155, z155] at X155
  obtain ⟨rfl, rfl, e155⟩ := hQ155
  have X155 : Stand p l e _ s m #[(.ref a), (.int 2)] below meth c T155 [] 0 0 := X155
  refine OGets.after st155 ?_
  refine OGets.retA X155 hx hlk (t := (.object "java/lang/Object")) Bd.returns rfl rfl rfl (hb hby dj38m20_14) (nb rfl) (nb rfl) ?_
  exact ⟨rfl, rfl, e155⟩
theorem d119m7_0 : decode prog_119_method_7_code 0 = .ok (.aload_n 0, 1) := by decide +kernel
theorem d119m7_1 : decode prog_119_method_7_code 1 = .ok (.getfield 17, 3) := by decide +kernel
theorem d119m7_4 : decode prog_119_method_7_code 4 = .ok (.areturn, 1) := by decide +kernel
theorem ef_vdo (m : MethodId) (x0 : Addr) : entryFrame m #[(.ref x0)] 1 = mkF m 0 #[.val (.ref x0)] [] := by first | (simp [entryFrame, mkF, argsToLocals, Value.category]; done) | rfl
def Q_vdo (Z : State) (x : Addr) (d : Addr) (ix : Int32) (h0 : Heap) (n0 : Nat) (F : List (Addr × OObj)) (v : Option Value) (h : Heap) (L : List Loc) : Prop := v = some (.ref d) ∧ L = [] ∧ h = h0
set_option maxRecDepth 65536 in
set_option maxHeartbeats 40000000 in
theorem rm_vdo (l : Launch) (Z : State) (a0 : Array Value) (hw : ∀ d ∈ tables_1, d.before a0 Z = true) (ws : List Jvm.Cond) (x : Addr) (d : Addr) (ix : Int32) (h0 : Heap) (n0 : Nat) (F : List (Addr × OObj)) (Z0 : n0 ≤ h0.size) (V0 : OView Z n0 h0 (oV x [.null, .null, (.ref d), (.int ix), .null] :: F)) :
    MetFree l (⟨"com/example/inya/inya/Variable", "domain", "()Lcom/example/inya/inya/Domain;"⟩ : MethodName) (head1 (Jvm.Cond.code (⟨"com/example/inya/inya/Variable", "domain", "()Lcom/example/inya/inya/Domain;"⟩ : MethodName) prog_119_method_7_code 1 (some (.object "com/example/inya/inya/Domain")) :: ws) ({ frames := 0, cells := 0, slots := 0, locals := 0 } : Room)) (fun a_ U => a_ = #[(.ref x)] ∧ Z.Warmed39 U.vm ∧ U.heap = h0) (fun _ _ _ _ _ => True) (fun _ U o U' => ∃ v L, o = .returned v ∧ Q_vdo Z x d ix h0 n0 F v U'.heap L ∧ FrameEnd U o U' L ({ frames := 0, cells := 0, slots := 0, locals := 0 } : Room).cells ({ frames := 0, cells := 0, slots := 0, locals := 0 } : Room).slots) := by
  refine MetFree.of_bodySF (plainFor_of_name pn_11) hisR ?_
  intro p e s m args below meth c s₁ Bd hml0 hP hK
  obtain ⟨rfl, hZ, hh⟩ := hP
  have hx := Bd.exec
  have hby := Bd.bytes
  have hlk : meth.locks = false := Bd.notSynchronized
  have hml : c.maxLocals = 1 := hml0
  have hown : s.vm.findClass "com/example/inya/inya/Variable" = some m.cls := findClass_of_methodNamed Bd.named
  have hnm := (name_of_methodNamed Bd.named Bd.method).1
  have X0 : Stand p l e ({ frames := 0, cells := 0, slots := 0, locals := 0 } : Room) s m #[(.ref x)] below meth c s₁ [] 0 0 := Stand.of_body Bd
  have e0 : s₁.heap = h0 := by rw [← hh, Bd.state]; rfl
  have N0 := Fr.nil n0
  show OGets p e below (OLeaves s (Q_vdo Z x d ix h0 n0 F ) ({ frames := 0, cells := 0, slots := 0, locals := 0 } : Room).cells ({ frames := 0, cells := 0, slots := 0, locals := 0 } : Room).slots) _
  refine OGets.enter (ef_vdo m x) ?_
  show OGets p e below _ (s₁.setTop (mkF m 0 #[rv x] []))
  refine og (fun _ => XS.aloadN X0.here hx rfl (hb hby d119m7_0) rfl rfl) ?_
  obtain ⟨T156, X156, e156, st156⟩ := getF X0 hx hZ hown (host := "") (Or.inl (ow hw 67 rfl)) Via.refl e0 (V0.fld 0 rfl 2 rfl rfl) (g := (mkF m 1 #[rv x] [(.ref x)])) rfl rfl (hb hby d119m7_1)
  refine og st156 ?_
  refine OGets.retA X156 hx hlk (t := (.object "com/example/inya/inya/Domain")) Bd.returns rfl rfl rfl (hb hby d119m7_4) (nb rfl) (nb rfl) ?_
  exact ⟨rfl, rfl, e156⟩
theorem d119m8_0 : decode prog_119_method_8_code 0 = .ok (.aload_n 0, 1) := by decide +kernel
theorem d119m8_1 : decode prog_119_method_8_code 1 = .ok (.getfield 21, 3) := by decide +kernel
theorem d119m8_4 : decode prog_119_method_8_code 4 = .ok (.ireturn, 1) := by decide +kernel
theorem ef_vix (m : MethodId) (x0 : Addr) : entryFrame m #[(.ref x0)] 1 = mkF m 0 #[.val (.ref x0)] [] := by first | (simp [entryFrame, mkF, argsToLocals, Value.category]; done) | rfl
def Q_vix (Z : State) (x : Addr) (d : Addr) (ix : Int32) (h0 : Heap) (n0 : Nat) (F : List (Addr × OObj)) (v : Option Value) (h : Heap) (L : List Loc) : Prop := v = some (.int ix) ∧ L = [] ∧ h = h0
set_option maxRecDepth 65536 in
set_option maxHeartbeats 40000000 in
theorem rm_vix (l : Launch) (Z : State) (a0 : Array Value) (hw : ∀ d ∈ tables_1, d.before a0 Z = true) (ws : List Jvm.Cond) (x : Addr) (d : Addr) (ix : Int32) (h0 : Heap) (n0 : Nat) (F : List (Addr × OObj)) (Z0 : n0 ≤ h0.size) (V0 : OView Z n0 h0 (oV x [.null, .null, (.ref d), (.int ix), .null] :: F)) :
    MetFree l (⟨"com/example/inya/inya/Variable", "index", "()I"⟩ : MethodName) (head1 (Jvm.Cond.code (⟨"com/example/inya/inya/Variable", "index", "()I"⟩ : MethodName) prog_119_method_8_code 1 (some .int) :: ws) ({ frames := 0, cells := 0, slots := 0, locals := 0 } : Room)) (fun a_ U => a_ = #[(.ref x)] ∧ Z.Warmed39 U.vm ∧ U.heap = h0) (fun _ _ _ _ _ => True) (fun _ U o U' => ∃ v L, o = .returned v ∧ Q_vix Z x d ix h0 n0 F v U'.heap L ∧ FrameEnd U o U' L ({ frames := 0, cells := 0, slots := 0, locals := 0 } : Room).cells ({ frames := 0, cells := 0, slots := 0, locals := 0 } : Room).slots) := by
  refine MetFree.of_bodySF (plainFor_of_name pn_11) hisR ?_
  intro p e s m args below meth c s₁ Bd hml0 hP hK
  obtain ⟨rfl, hZ, hh⟩ := hP
  have hx := Bd.exec
  have hby := Bd.bytes
  have hlk : meth.locks = false := Bd.notSynchronized
  have hml : c.maxLocals = 1 := hml0
  have hown : s.vm.findClass "com/example/inya/inya/Variable" = some m.cls := findClass_of_methodNamed Bd.named
  have hnm := (name_of_methodNamed Bd.named Bd.method).1
  have X0 : Stand p l e ({ frames := 0, cells := 0, slots := 0, locals := 0 } : Room) s m #[(.ref x)] below meth c s₁ [] 0 0 := Stand.of_body Bd
  have e0 : s₁.heap = h0 := by rw [← hh, Bd.state]; rfl
  have N0 := Fr.nil n0
  show OGets p e below (OLeaves s (Q_vix Z x d ix h0 n0 F ) ({ frames := 0, cells := 0, slots := 0, locals := 0 } : Room).cells ({ frames := 0, cells := 0, slots := 0, locals := 0 } : Room).slots) _
  refine OGets.enter (ef_vix m x) ?_
  show OGets p e below _ (s₁.setTop (mkF m 0 #[rv x] []))
  refine og (fun _ => XS.aloadN X0.here hx rfl (hb hby d119m8_0) rfl rfl) ?_
  obtain ⟨T157, X157, e157, st157⟩ := getF X0 hx hZ hown (host := "") (Or.inl (ow hw 69 rfl)) Via.refl e0 (V0.fld 0 rfl 3 rfl rfl) (g := (mkF m 1 #[rv x] [(.ref x)])) rfl rfl (hb hby d119m8_1)
  refine og st157 ?_
  refine OGets.retI X157 hx hlk Bd.returns (hb hby d119m8_4) (nb rfl) (nb rfl) ?_
  exact ⟨rfl, rfl, e157⟩
theorem d21m6_0 : decode prog_21_method_6_code 0 = .ok (.aload_n 0, 1) := by decide +kernel
theorem d21m6_1 : decode prog_21_method_6_code 1 = .ok (.getfield 17, 3) := by decide +kernel
theorem d21m6_4 : decode prog_21_method_6_code 4 = .ok (.i2l, 1) := by decide +kernel
theorem d21m6_5 : decode prog_21_method_6_code 5 = .ok (.aload_n 0, 1) := by decide +kernel
theorem d21m6_6 : decode prog_21_method_6_code 6 = .ok (.getfield 13, 3) := by decide +kernel
theorem d21m6_9 : decode prog_21_method_6_code 9 = .ok (.i2l, 1) := by decide +kernel
theorem d21m6_10 : decode prog_21_method_6_code 10 = .ok (.lsub, 1) := by decide +kernel
theorem d21m6_11 : decode prog_21_method_6_code 11 = .ok (.lconst 1, 1) := by decide +kernel
theorem d21m6_12 : decode prog_21_method_6_code 12 = .ok (.ladd, 1) := by decide +kernel
theorem d21m6_13 : decode prog_21_method_6_code 13 = .ok (.lreturn, 1) := by decide +kernel
theorem ef_dsz (m : MethodId) (x0 : Addr) : entryFrame m #[(.ref x0)] 1 = mkF m 0 #[.val (.ref x0)] [] := by first | (simp [entryFrame, mkF, argsToLocals, Value.category]; done) | rfl
def Q_dsz (Z : State) (d : Addr) (lo : Int32) (hi : Int32) (h0 : Heap) (n0 : Nat) (F : List (Addr × OObj)) (v : Option Value) (h : Heap) (L : List Loc) : Prop := v = some (.long (((hi.toInt64) - (lo.toInt64)) + (1 : Int64))) ∧ L = [] ∧ h = h0
set_option maxRecDepth 65536 in
set_option maxHeartbeats 40000000 in
theorem rm_dsz (l : Launch) (Z : State) (a0 : Array Value) (hw : ∀ d ∈ tables_1, d.before a0 Z = true) (ws : List Jvm.Cond) (d : Addr) (lo : Int32) (hi : Int32) (h0 : Heap) (n0 : Nat) (F : List (Addr × OObj)) (Z0 : n0 ≤ h0.size) (V0 : OView Z n0 h0 (oD d [(.int 0), (.int lo), (.int hi)] :: F)) :
    MetFree l (⟨"com/example/inya/inya/Domain", "size", "()J"⟩ : MethodName) (head1 (Jvm.Cond.code (⟨"com/example/inya/inya/Domain", "size", "()J"⟩ : MethodName) prog_21_method_6_code 1 (some .long) :: ws) ({ frames := 0, cells := 0, slots := 0, locals := 0 } : Room)) (fun a_ U => a_ = #[(.ref d)] ∧ Z.Warmed39 U.vm ∧ U.heap = h0) (fun _ _ _ _ _ => True) (fun _ U o U' => ∃ v L, o = .returned v ∧ Q_dsz Z d lo hi h0 n0 F v U'.heap L ∧ FrameEnd U o U' L ({ frames := 0, cells := 0, slots := 0, locals := 0 } : Room).cells ({ frames := 0, cells := 0, slots := 0, locals := 0 } : Room).slots) := by
  refine MetFree.of_bodySF (plainFor_of_name pn_9) hisR ?_
  intro p e s m args below meth c s₁ Bd hml0 hP hK
  obtain ⟨rfl, hZ, hh⟩ := hP
  have hx := Bd.exec
  have hby := Bd.bytes
  have hlk : meth.locks = false := Bd.notSynchronized
  have hml : c.maxLocals = 1 := hml0
  have hown : s.vm.findClass "com/example/inya/inya/Domain" = some m.cls := findClass_of_methodNamed Bd.named
  have hnm := (name_of_methodNamed Bd.named Bd.method).1
  have X0 : Stand p l e ({ frames := 0, cells := 0, slots := 0, locals := 0 } : Room) s m #[(.ref d)] below meth c s₁ [] 0 0 := Stand.of_body Bd
  have e0 : s₁.heap = h0 := by rw [← hh, Bd.state]; rfl
  have N0 := Fr.nil n0
  show OGets p e below (OLeaves s (Q_dsz Z d lo hi h0 n0 F ) ({ frames := 0, cells := 0, slots := 0, locals := 0 } : Room).cells ({ frames := 0, cells := 0, slots := 0, locals := 0 } : Room).slots) _
  refine OGets.enter (ef_dsz m d) ?_
  show OGets p e below _ (s₁.setTop (mkF m 0 #[rv d] []))
  refine og (fun _ => XS.aloadN X0.here hx rfl (hb hby d21m6_0) rfl rfl) ?_
  obtain ⟨T158, X158, e158, st158⟩ := getF X0 hx hZ hown (host := "") (Or.inl (ow hw 52 rfl)) Via.refl e0 (V0.fld 0 rfl 2 rfl rfl) (g := (mkF m 1 #[rv d] [(.ref d)])) rfl rfl (hb hby d21m6_1)
  refine og st158 ?_
  refine og (fun _ => XS.i2l X158.here hx rfl (hb hby d21m6_4) rfl) ?_
  refine og (fun _ => XS.aloadN X158.here hx rfl (hb hby d21m6_5) rfl rfl) ?_
  obtain ⟨T159, X159, e159, st159⟩ := getF X158 hx hZ hown (host := "") (Or.inl (ow hw 50 rfl)) Via.refl e158 (V0.fld 0 rfl 1 rfl rfl) (g := (mkF m 6 #[rv d] [(.ref d), (.long (hi.toInt64))])) rfl rfl (hb hby d21m6_6)
  refine og st159 ?_
  refine og (fun _ => XS.i2l X159.here hx rfl (hb hby d21m6_9) rfl) ?_
  refine og (fun _ => XS.lsub X159.here hx rfl (hb hby d21m6_10) rfl) ?_
  refine og (fun _ => XS.lconst X159.here hx rfl (hb hby d21m6_11)) ?_
  refine og (fun _ => XS.ladd X159.here hx rfl (hb hby d21m6_12) rfl) ?_
  refine OGets.retJ X159 hx hlk Bd.returns (hb hby d21m6_13) (nb rfl) (nb rfl) ?_
  exact ⟨rfl, rfl, e159⟩
theorem d21m4_0 : decode prog_21_method_4_code 0 = .ok (.aload_n 0, 1) := by decide +kernel
theorem d21m4_1 : decode prog_21_method_4_code 1 = .ok (.getfield 13, 3) := by decide +kernel
theorem d21m4_4 : decode prog_21_method_4_code 4 = .ok (.ireturn, 1) := by decide +kernel
theorem ef_dlo (m : MethodId) (x0 : Addr) : entryFrame m #[(.ref x0)] 1 = mkF m 0 #[.val (.ref x0)] [] := by first | (simp [entryFrame, mkF, argsToLocals, Value.category]; done) | rfl
def Q_dlo (Z : State) (d : Addr) (lo : Int32) (hi : Int32) (h0 : Heap) (n0 : Nat) (F : List (Addr × OObj)) (v : Option Value) (h : Heap) (L : List Loc) : Prop := v = some (.int lo) ∧ L = [] ∧ h = h0
set_option maxRecDepth 65536 in
set_option maxHeartbeats 40000000 in
theorem rm_dlo (l : Launch) (Z : State) (a0 : Array Value) (hw : ∀ d ∈ tables_1, d.before a0 Z = true) (ws : List Jvm.Cond) (d : Addr) (lo : Int32) (hi : Int32) (h0 : Heap) (n0 : Nat) (F : List (Addr × OObj)) (Z0 : n0 ≤ h0.size) (V0 : OView Z n0 h0 (oD d [(.int 0), (.int lo), (.int hi)] :: F)) :
    MetFree l (⟨"com/example/inya/inya/Domain", "lo", "()I"⟩ : MethodName) (head1 (Jvm.Cond.code (⟨"com/example/inya/inya/Domain", "lo", "()I"⟩ : MethodName) prog_21_method_4_code 1 (some .int) :: ws) ({ frames := 0, cells := 0, slots := 0, locals := 0 } : Room)) (fun a_ U => a_ = #[(.ref d)] ∧ Z.Warmed39 U.vm ∧ U.heap = h0) (fun _ _ _ _ _ => True) (fun _ U o U' => ∃ v L, o = .returned v ∧ Q_dlo Z d lo hi h0 n0 F v U'.heap L ∧ FrameEnd U o U' L ({ frames := 0, cells := 0, slots := 0, locals := 0 } : Room).cells ({ frames := 0, cells := 0, slots := 0, locals := 0 } : Room).slots) := by
  refine MetFree.of_bodySF (plainFor_of_name pn_9) hisR ?_
  intro p e s m args below meth c s₁ Bd hml0 hP hK
  obtain ⟨rfl, hZ, hh⟩ := hP
  have hx := Bd.exec
  have hby := Bd.bytes
  have hlk : meth.locks = false := Bd.notSynchronized
  have hml : c.maxLocals = 1 := hml0
  have hown : s.vm.findClass "com/example/inya/inya/Domain" = some m.cls := findClass_of_methodNamed Bd.named
  have hnm := (name_of_methodNamed Bd.named Bd.method).1
  have X0 : Stand p l e ({ frames := 0, cells := 0, slots := 0, locals := 0 } : Room) s m #[(.ref d)] below meth c s₁ [] 0 0 := Stand.of_body Bd
  have e0 : s₁.heap = h0 := by rw [← hh, Bd.state]; rfl
  have N0 := Fr.nil n0
  show OGets p e below (OLeaves s (Q_dlo Z d lo hi h0 n0 F ) ({ frames := 0, cells := 0, slots := 0, locals := 0 } : Room).cells ({ frames := 0, cells := 0, slots := 0, locals := 0 } : Room).slots) _
  refine OGets.enter (ef_dlo m d) ?_
  show OGets p e below _ (s₁.setTop (mkF m 0 #[rv d] []))
  refine og (fun _ => XS.aloadN X0.here hx rfl (hb hby d21m4_0) rfl rfl) ?_
  obtain ⟨T160, X160, e160, st160⟩ := getF X0 hx hZ hown (host := "") (Or.inl (ow hw 50 rfl)) Via.refl e0 (V0.fld 0 rfl 1 rfl rfl) (g := (mkF m 1 #[rv d] [(.ref d)])) rfl rfl (hb hby d21m4_1)
  refine og st160 ?_
  refine OGets.retI X160 hx hlk Bd.returns (hb hby d21m4_4) (nb rfl) (nb rfl) ?_
  exact ⟨rfl, rfl, e160⟩
theorem pn_20 : plainName "com/example/inya/inya/StateLayout" = true := by first | (simp [plainName, overriddenIn]; done) | decide +kernel
theorem d77m1_0 : decode prog_77_method_1_code 0 = .ok (.aload_n 0, 1) := by decide +kernel
theorem d77m1_1 : decode prog_77_method_1_code 1 = .ok (.invokespecial 1, 3) := by decide +kernel
theorem d77m1_4 : decode prog_77_method_1_code 4 = .ok (.aload_n 1, 1) := by decide +kernel
theorem d77m1_5 : decode prog_77_method_1_code 5 = .ok (.invokeinterface 7 1, 5) := by decide +kernel
theorem pd_21 : parseMethodDescriptor "()I" = some ⟨[], some .int⟩ := by decide +kernel
theorem d77m1_10 : decode prog_77_method_1_code 10 = .ok (.istore_n 2, 1) := by decide +kernel
theorem d77m1_11 : decode prog_77_method_1_code 11 = .ok (.aload_n 0, 1) := by decide +kernel
theorem d77m1_12 : decode prog_77_method_1_code 12 = .ok (.iload_n 2, 1) := by decide +kernel
theorem d77m1_13 : decode prog_77_method_1_code 13 = .ok (.newarray .int, 2) := by decide +kernel
theorem d77m1_15 : decode prog_77_method_1_code 15 = .ok (.putfield 13, 3) := by decide +kernel
theorem d77m1_18 : decode prog_77_method_1_code 18 = .ok (.aload_n 0, 1) := by decide +kernel
theorem d77m1_19 : decode prog_77_method_1_code 19 = .ok (.iload_n 2, 1) := by decide +kernel
theorem d77m1_20 : decode prog_77_method_1_code 20 = .ok (.newarray .int, 2) := by decide +kernel
theorem d77m1_22 : decode prog_77_method_1_code 22 = .ok (.putfield 19, 3) := by decide +kernel
theorem d77m1_25 : decode prog_77_method_1_code 25 = .ok (.aload_n 0, 1) := by decide +kernel
theorem d77m1_26 : decode prog_77_method_1_code 26 = .ok (.iload_n 2, 1) := by decide +kernel
theorem d77m1_27 : decode prog_77_method_1_code 27 = .ok (.newarray .int, 2) := by decide +kernel
theorem d77m1_29 : decode prog_77_method_1_code 29 = .ok (.putfield 22, 3) := by decide +kernel
theorem d77m1_32 : decode prog_77_method_1_code 32 = .ok (.aload_n 0, 1) := by decide +kernel
theorem d77m1_33 : decode prog_77_method_1_code 33 = .ok (.iload_n 2, 1) := by decide +kernel
theorem d77m1_34 : decode prog_77_method_1_code 34 = .ok (.newarray .long, 2) := by decide +kernel
theorem d77m1_36 : decode prog_77_method_1_code 36 = .ok (.putfield 25, 3) := by decide +kernel
theorem d77m1_39 : decode prog_77_method_1_code 39 = .ok (.aload_n 0, 1) := by decide +kernel
theorem d77m1_40 : decode prog_77_method_1_code 40 = .ok (.iload_n 2, 1) := by decide +kernel
theorem d77m1_41 : decode prog_77_method_1_code 41 = .ok (.newarray .int, 2) := by decide +kernel
theorem d77m1_43 : decode prog_77_method_1_code 43 = .ok (.putfield 29, 3) := by decide +kernel
theorem d77m1_46 : decode prog_77_method_1_code 46 = .ok (.iconst 0, 1) := by decide +kernel
theorem d77m1_47 : decode prog_77_method_1_code 47 = .ok (.istore_n 3, 1) := by decide +kernel
theorem d77m1_48 : decode prog_77_method_1_code 48 = .ok (.iconst 0, 1) := by decide +kernel
theorem d77m1_49 : decode prog_77_method_1_code 49 = .ok (.istore 4, 2) := by decide +kernel
theorem d77m1_51 : decode prog_77_method_1_code 51 = .ok (.iconst 0, 1) := by decide +kernel
theorem d77m1_52 : decode prog_77_method_1_code 52 = .ok (.istore 5, 2) := by decide +kernel
theorem d77m1_54 : decode prog_77_method_1_code 54 = .ok (.iload 5, 2) := by decide +kernel
theorem d77m1_56 : decode prog_77_method_1_code 56 = .ok (.iload_n 2, 1) := by decide +kernel
theorem d77m1_57 : decode prog_77_method_1_code 57 = .ok (.if_icmp .ge 124, 3) := by decide +kernel
theorem d77m1_60 : decode prog_77_method_1_code 60 = .ok (.aload_n 1, 1) := by decide +kernel
theorem d77m1_61 : decode prog_77_method_1_code 61 = .ok (.iload 5, 2) := by decide +kernel
theorem d77m1_63 : decode prog_77_method_1_code 63 = .ok (.invokeinterface 32 2, 5) := by decide +kernel
theorem d77m1_68 : decode prog_77_method_1_code 68 = .ok (.checkcast 36, 3) := by decide +kernel
theorem d77m1_71 : decode prog_77_method_1_code 71 = .ok (.astore 6, 2) := by decide +kernel
theorem d77m1_73 : decode prog_77_method_1_code 73 = .ok (.aload 6, 2) := by decide +kernel
theorem d77m1_75 : decode prog_77_method_1_code 75 = .ok (.invokevirtual 38, 3) := by decide +kernel
theorem pd_22 : parseMethodDescriptor "()Lcom/example/inya/inya/Domain;" = some ⟨[], some (.object "com/example/inya/inya/Domain")⟩ := by decide +kernel
theorem d77m1_78 : decode prog_77_method_1_code 78 = .ok (.invokevirtual 42, 3) := by decide +kernel
theorem pd_23 : parseMethodDescriptor "()J" = some ⟨[], some .long⟩ := by decide +kernel
theorem d77m1_81 : decode prog_77_method_1_code 81 = .ok (.lstore 7, 2) := by decide +kernel
theorem d77m1_83 : decode prog_77_method_1_code 83 = .ok (.bipush 64, 2) := by decide +kernel
theorem d77m1_85 : decode prog_77_method_1_code 85 = .ok (.lload 7, 2) := by decide +kernel
theorem d77m1_87 : decode prog_77_method_1_code 87 = .ok (.lconst 1, 1) := by decide +kernel
theorem d77m1_88 : decode prog_77_method_1_code 88 = .ok (.lsub, 1) := by decide +kernel
theorem d77m1_89 : decode prog_77_method_1_code 89 = .ok (.invokestatic 49, 3) := by decide +kernel
theorem pd_24 : parseMethodDescriptor "(J)I" = some ⟨[.long], some .int⟩ := by decide +kernel
theorem d77m1_92 : decode prog_77_method_1_code 92 = .ok (.isub, 1) := by decide +kernel
theorem d77m1_93 : decode prog_77_method_1_code 93 = .ok (.istore 9, 2) := by decide +kernel
theorem d77m1_95 : decode prog_77_method_1_code 95 = .ok (.iload 4, 2) := by decide +kernel
theorem d77m1_97 : decode prog_77_method_1_code 97 = .ok (.iload 9, 2) := by decide +kernel
theorem d77m1_99 : decode prog_77_method_1_code 99 = .ok (.iadd, 1) := by decide +kernel
theorem d77m1_100 : decode prog_77_method_1_code 100 = .ok (.bipush 64, 2) := by decide +kernel
theorem d77m1_102 : decode prog_77_method_1_code 102 = .ok (.if_icmp .le 9, 3) := by decide +kernel
theorem d77m1_111 : decode prog_77_method_1_code 111 = .ok (.aload_n 0, 1) := by decide +kernel
theorem d77m1_112 : decode prog_77_method_1_code 112 = .ok (.getfield 13, 3) := by decide +kernel
theorem d77m1_115 : decode prog_77_method_1_code 115 = .ok (.iload 5, 2) := by decide +kernel
theorem d77m1_117 : decode prog_77_method_1_code 117 = .ok (.aload 6, 2) := by decide +kernel
theorem d77m1_119 : decode prog_77_method_1_code 119 = .ok (.invokevirtual 53, 3) := by decide +kernel
theorem d77m1_122 : decode prog_77_method_1_code 122 = .ok (.iastore, 1) := by decide +kernel
theorem d77m1_123 : decode prog_77_method_1_code 123 = .ok (.aload_n 0, 1) := by decide +kernel
theorem d77m1_124 : decode prog_77_method_1_code 124 = .ok (.getfield 19, 3) := by decide +kernel
theorem d77m1_127 : decode prog_77_method_1_code 127 = .ok (.iload 5, 2) := by decide +kernel
theorem d77m1_129 : decode prog_77_method_1_code 129 = .ok (.iload_n 3, 1) := by decide +kernel
theorem d77m1_130 : decode prog_77_method_1_code 130 = .ok (.iastore, 1) := by decide +kernel
theorem d77m1_131 : decode prog_77_method_1_code 131 = .ok (.aload_n 0, 1) := by decide +kernel
theorem d77m1_132 : decode prog_77_method_1_code 132 = .ok (.getfield 22, 3) := by decide +kernel
theorem d77m1_135 : decode prog_77_method_1_code 135 = .ok (.iload 5, 2) := by decide +kernel
theorem d77m1_137 : decode prog_77_method_1_code 137 = .ok (.iload 4, 2) := by decide +kernel
theorem d77m1_139 : decode prog_77_method_1_code 139 = .ok (.iastore, 1) := by decide +kernel
theorem d77m1_140 : decode prog_77_method_1_code 140 = .ok (.aload_n 0, 1) := by decide +kernel
theorem d77m1_141 : decode prog_77_method_1_code 141 = .ok (.getfield 25, 3) := by decide +kernel
theorem d77m1_144 : decode prog_77_method_1_code 144 = .ok (.iload 5, 2) := by decide +kernel
theorem d77m1_146 : decode prog_77_method_1_code 146 = .ok (.lconst 1, 1) := by decide +kernel
theorem d77m1_147 : decode prog_77_method_1_code 147 = .ok (.iload 9, 2) := by decide +kernel
theorem d77m1_149 : decode prog_77_method_1_code 149 = .ok (.lshl, 1) := by decide +kernel
theorem d77m1_150 : decode prog_77_method_1_code 150 = .ok (.lconst 1, 1) := by decide +kernel
theorem d77m1_151 : decode prog_77_method_1_code 151 = .ok (.lsub, 1) := by decide +kernel
theorem d77m1_152 : decode prog_77_method_1_code 152 = .ok (.lastore, 1) := by decide +kernel
theorem d77m1_153 : decode prog_77_method_1_code 153 = .ok (.aload_n 0, 1) := by decide +kernel
theorem d77m1_154 : decode prog_77_method_1_code 154 = .ok (.getfield 29, 3) := by decide +kernel
theorem d77m1_157 : decode prog_77_method_1_code 157 = .ok (.iload 5, 2) := by decide +kernel
theorem d77m1_159 : decode prog_77_method_1_code 159 = .ok (.aload 6, 2) := by decide +kernel
theorem d77m1_161 : decode prog_77_method_1_code 161 = .ok (.invokevirtual 38, 3) := by decide +kernel
theorem d77m1_164 : decode prog_77_method_1_code 164 = .ok (.invokevirtual 55, 3) := by decide +kernel
theorem d77m1_167 : decode prog_77_method_1_code 167 = .ok (.iastore, 1) := by decide +kernel
theorem d77m1_168 : decode prog_77_method_1_code 168 = .ok (.iload 4, 2) := by decide +kernel
theorem d77m1_170 : decode prog_77_method_1_code 170 = .ok (.iload 9, 2) := by decide +kernel
theorem d77m1_172 : decode prog_77_method_1_code 172 = .ok (.iadd, 1) := by decide +kernel
theorem d77m1_173 : decode prog_77_method_1_code 173 = .ok (.istore 4, 2) := by decide +kernel
theorem d77m1_175 : decode prog_77_method_1_code 175 = .ok (.iinc 5 1, 3) := by decide +kernel
theorem d77m1_178 : decode prog_77_method_1_code 178 = .ok (.goto (-124), 3) := by decide +kernel
theorem d77m1_181 : decode prog_77_method_1_code 181 = .ok (.aload_n 0, 1) := by decide +kernel
theorem d77m1_182 : decode prog_77_method_1_code 182 = .ok (.iload_n 3, 1) := by decide +kernel
theorem d77m1_183 : decode prog_77_method_1_code 183 = .ok (.iconst 1, 1) := by decide +kernel
theorem d77m1_184 : decode prog_77_method_1_code 184 = .ok (.iadd, 1) := by decide +kernel
theorem d77m1_185 : decode prog_77_method_1_code 185 = .ok (.putfield 57, 3) := by decide +kernel
theorem d77m1_188 : decode prog_77_method_1_code 188 = .ok (.return_, 1) := by decide +kernel
theorem ef_sin0 (m : MethodId) (x0 : Addr) (x1 : Addr) : entryFrame m #[(.ref x0), (.ref x1)] 10 = mkF m 0 #[.val (.ref x0), .val (.ref x1), .unset, .unset, .unset, .unset, .unset, .unset, .unset, .unset] [] := by first | (simp [entryFrame, mkF, argsToLocals, Value.category]; done) | rfl
def Q_sin0 (Z : State) (a : Addr) (ls : Addr) (b : Addr) (x0 : Addr) (x1 : Addr) (x2 : Addr) (eA : Addr) (eB : Addr) (eC : Addr) (iA : Int32) (iB : Int32) (iC : Int32) (lA : Int32) (hA : Int32) (lB : Int32) (hB : Int32) (lC : Int32) (hC : Int32) (h0 : Heap) (n0 : Nat) (F : List (Addr × OObj)) (v : Option Value) (h : Heap) (L : List Loc) : Prop := v = none ∧ Fr n0 L ∧ ∃ ai aw ash am ao : Addr, OView Z n0 h (oY a [(.ref ai), (.ref aw), (.ref ash), (.ref am), (.ref ao), (.int (1 : Int32))] :: oI ai [iA, iB, iC] :: oI aw [(0 : Int32), (0 : Int32), (0 : Int32)] :: oI ash [(0 : Int32), ((0 : Int32) + (bt lA hA)), (((0 : Int32) + (bt lA hA)) + (bt lB hB))] :: oK am [(msk (bt lA hA)), (msk (bt lB hB)), (msk (bt lC hC))] :: oI ao [lA, lB, lC] :: F)
set_option maxRecDepth 65536 in
set_option maxHeartbeats 40000000 in
theorem rm_sin0 (l : Launch) (Z : State) (a0 : Array Value) (hw : ∀ d ∈ tables_1, d.before a0 Z = true) (ws : List Jvm.Cond) (a : Addr) (ls : Addr) (b : Addr) (x0 : Addr) (x1 : Addr) (x2 : Addr) (eA : Addr) (eB : Addr) (eC : Addr) (iA : Int32) (iB : Int32) (iC : Int32) (lA : Int32) (hA : Int32) (lB : Int32) (hB : Int32) (lC : Int32) (hC : Int32) (h0 : Heap) (n0 : Nat) (F : List (Addr × OObj)) (Z0 : n0 ≤ h0.size) (hb0 : ¬ ((64 : Int32) < ((0 : Int32) + (bt lA hA)))) (hb1 : ¬ ((64 : Int32) < (((0 : Int32) + (bt lA hA)) + (bt lB hB)))) (hb2 : ¬ ((64 : Int32) < ((((0 : Int32) + (bt lA hA)) + (bt lB hB)) + (bt lC hC)))) (V0 : OView Z n0 h0 (oY a [.null, .null, .null, .null, .null, (.int 0)] :: oL ls [(.int 3), (.ref b), (.int 3)] :: oO3 b x0 x1 x2 :: oV x0 [.null, .null, (.ref eA), (.int iA), .null] :: oV x1 [.null, .null, (.ref eB), (.int iB), .null] :: oV x2 [.null, .null, (.ref eC), (.int iC), .null] :: oD eA [(.int 0), (.int lA), (.int hA)] :: oD eB [(.int 0), (.int lB), (.int hB)] :: oD eC [(.int 0), (.int lC), (.int hC)] :: F)) :
    MetFree l (⟨"com/example/inya/inya/StateLayout", "<init>", "(Ljava/util/List;)V"⟩ : MethodName) (head1 (Jvm.Cond.code (⟨"com/example/inya/inya/StateLayout", "<init>", "(Ljava/util/List;)V"⟩ : MethodName) prog_77_method_1_code 10 none :: ws) ({ frames := 3, cells := 5, slots := 15, locals := 40 } : Room)) (fun a_ U => a_ = #[(.ref a), (.ref ls)] ∧ Z.Warmed39 U.vm ∧ U.heap = h0) (fun _ _ _ _ _ => True) (fun _ U o U' => ∃ v L, o = .returned v ∧ Q_sin0 Z a ls b x0 x1 x2 eA eB eC iA iB iC lA hA lB hB lC hC h0 n0 F v U'.heap L ∧ FrameEnd U o U' L ({ frames := 3, cells := 5, slots := 15, locals := 40 } : Room).cells ({ frames := 3, cells := 5, slots := 15, locals := 40 } : Room).slots) := by
  refine MetFree.of_bodySF (plainFor_of_name pn_20) hisR ?_
  intro p e s m args below meth c s₁ Bd hml0 hP hK
  obtain ⟨rfl, hZ, hh⟩ := hP
  have hx := Bd.exec
  have hby := Bd.bytes
  have hlk : meth.locks = false := Bd.notSynchronized
  have hml : c.maxLocals = 10 := hml0
  have hown : s.vm.findClass "com/example/inya/inya/StateLayout" = some m.cls := findClass_of_methodNamed Bd.named
  have hnm := (name_of_methodNamed Bd.named Bd.method).1
  have X0 : Stand p l e ({ frames := 3, cells := 5, slots := 15, locals := 40 } : Room) s m #[(.ref a), (.ref ls)] below meth c s₁ [] 0 0 := Stand.of_body Bd
  have e0 : s₁.heap = h0 := by rw [← hh, Bd.state]; rfl
  have N0 := Fr.nil n0
  show OGets p e below (OLeaves s (Q_sin0 Z a ls b x0 x1 x2 eA eB eC iA iB iC lA hA lB hB lC hC h0 n0 F ) ({ frames := 3, cells := 5, slots := 15, locals := 40 } : Room).cells ({ frames := 3, cells := 5, slots := 15, locals := 40 } : Room).slots) _
  refine OGets.enter (ef_sin0 m a ls) ?_
  show OGets p e below _ (s₁.setTop (mkF m 0 #[rv a, rv ls, uv, uv, uv, uv, uv, uv, uv, uv] []))
  refine og (fun _ => XS.aloadN X0.here hx rfl (hb hby d77m1_0) rfl rfl) ?_
  obtain ⟨T161, X161, e161, st161⟩ := initO X0 hx hZ hown (ow hw 110 rfl) (ow hw 28 rfl) (ow hw 29 rfl) e0 (g := (mkF m 1 #[rv a, rv ls, uv, uv, uv, uv, uv, uv, uv, uv] [(.ref a)])) rfl (by rw [hml]; rfl) rfl (hb hby d77m1_1) (by decide) (W := 0) (by show 2 * 0 + _ ≤ _; exact Nat.le_of_eq rfl) (by decide)
  refine og st161 ?_
  refine og (fun _ => XS.aloadN X161.here hx rfl (hb hby d77m1_4) rfl rfl) ?_
  have V162_ : OView Z _ h0 (oL ls [(.int 3), (.ref b), (.int 3)] :: oY a [.null, .null, .null, .null, .null, (.int 0)] :: oO3 b x0 x1 x2 :: oV x0 [.null, .null, (.ref eA), (.int iA), .null] :: oV x1 [.null, .null, (.ref eB), (.int iB), .null] :: oV x2 [.null, .null, (.ref eC), (.int iC), .null] :: oD eA [(.int 0), (.int lA), (.int hA)] :: oD eB [(.int 0), (.int lB), (.int hB)] :: oD eC [(.int 0), (.int lC), (.int hC)] :: F) := (V0.bring 1 rfl)
  obtain ⟨cq162, kq162, q162a, q162b, q162c⟩ := isOf hZ e161 (V162_.exa 0 rfl)
  obtain ⟨_, _, ⟨T162, L162, k162, n162⟩, -, X162, ⟨Lc162, hQ162, l162, y162, z162⟩, st162⟩ := X161.interfaceBack hx (xi := (⟨"java/util/List", "size", "()I"⟩ : MethodName)) (y := (⟨"java/util/ArrayList", "size", "()I"⟩ : MethodName)) hown (mvT hZ (ow hw 111 rfl)) (mvT hZ (ow hw 112 rfl)) (mvT hZ (ow hw 113 rfl)) (mvT hZ (ow hw 114 rfl)) (mvT hZ (ow hw 115 rfl)) (mvT hZ (ow hw 116 rfl)) (mvT hZ (ow hw 117 rfl)) (mvT hZ (ow hw 118 rfl)) (by decide) (backOf (W := 0) (rm_sz l Z a0 hw [] ls b h0 n0 _ Z0  V162_) hZ (ow hw 119 rfl) (ow hw 11 rfl) (by decide) (by decide)) q162a q162b q162c (g := (mkF m 5 #[rv a, rv ls, uv, uv, uv, uv, uv, uv, uv, uv] [(.ref ls)])) rfl (by rw [hml]; rfl) (Steps.refl _) (argsL := []) (rest := []) (lenOf pd_21 rfl) rfl (by show 2 * 0 + _ ≤ _; exact Nat.le_of_eq rfl) (hb hby d77m1_5) (fun _ _ => ⟨rfl, e161, nb rfl, nb rfl⟩)
  dsimp only [Pt.U, Pt.locs, Pt.cells, Pt.slots] at X162 l162 y162 z162 st162 hQ162
  rw [l162, y162, z162] at X162
  obtain ⟨rfl, rfl, e162⟩ := hQ162
  have N162 := Fr.app N0 (Fr.nil n0)
  refine OGets.after st162 ?_
  refine og (fun _ => XS.istoreN X162.here hx rfl (hb hby d77m1_10) rfl (l' := #[rv a, rv ls, iv 3, uv, uv, uv, uv, uv, uv, uv]) rfl) ?_
  refine og (fun _ => XS.aloadN X162.here hx rfl (hb hby d77m1_11) rfl rfl) ?_
  refine og (fun _ => XS.iloadN X162.here hx rfl (hb hby d77m1_12) rfl) ?_
  obtain ⟨T163, h163, k163, X163, e163, E163, A163, st163⟩ := newP X162 hx hZ (ow hw 120 rfl) e162 (g := (mkF m 13 #[rv a, rv ls, iv 3, uv, uv, uv, uv, uv, uv, uv] [(.int 3), (.ref a)])) rfl (hb hby d77m1_13) rfl (by decide) (cap := 3) (by decide) (by decide) (by decide) (by decide)
  have V163' := V162_.newArr Z0 E163 A163 3 rfl
  have Z163 : n0 ≤ h163.size := Nat.le_trans Z0 E163.1
  obtain ⟨b163, g163⟩ : ∃ z, z = h0.size := ⟨_, rfl⟩
  rw [← g163] at V163' st163
  have V163 : OView Z n0 h163 (oI b163 [0, 0, 0] :: oL ls [(.int 3), (.ref b), (.int 3)] :: oY a [.null, .null, .null, .null, .null, (.int 0)] :: oO3 b x0 x1 x2 :: oV x0 [.null, .null, (.ref eA), (.int iA), .null] :: oV x1 [.null, .null, (.ref eB), (.int iB), .null] :: oV x2 [.null, .null, (.ref eC), (.int iC), .null] :: oD eA [(.int 0), (.int lA), (.int hA)] :: oD eB [(.int 0), (.int lB), (.int hB)] :: oD eC [(.int 0), (.int lC), (.int hC)] :: F) := V163'
  refine og st163 ?_
  obtain ⟨T164, h164, X164, e164, W164, st164⟩ := putF X163 hx hZ hown (host := "") (Or.inl (ow hw 121 rfl)) Via.refl e163 (V163.fld 2 rfl 0 rfl rfl) (V163.exa 2 rfl) (Or.inr ⟨(ow hw 122 rfl), rfl, hnm⟩) (ow hw 105 rfl) (ty := (.array .int)) (by decide) rfl rfl (g := (mkF m 15 #[rv a, rv ls, iv 3, uv, uv, uv, uv, uv, uv, uv] [(.ref b163), (.ref a)])) rfl rfl (hb hby d77m1_15)
  have V164 : OView Z n0 h164 (oI b163 [0, 0, 0] :: oL ls [(.int 3), (.ref b), (.int 3)] :: oY a [(.ref b163), .null, .null, .null, .null, (.int 0)] :: oO3 b x0 x1 x2 :: oV x0 [.null, .null, (.ref eA), (.int iA), .null] :: oV x1 [.null, .null, (.ref eB), (.int iB), .null] :: oV x2 [.null, .null, (.ref eC), (.int iC), .null] :: oD eA [(.int 0), (.int lA), (.int hA)] :: oD eB [(.int 0), (.int lB), (.int hB)] :: oD eC [(.int 0), (.int lC), (.int hC)] :: F) := V163.putF 2 rfl 0 rfl W164
  have N164 := Fr.snoc X164 N162 (V163.old 2 rfl)
  have Z164 : n0 ≤ h164.size := by rw [W164.size]; exact Z163
  refine og st164 ?_
  refine og (fun _ => XS.aloadN X164.here hx rfl (hb hby d77m1_18) rfl rfl) ?_
  refine og (fun _ => XS.iloadN X164.here hx rfl (hb hby d77m1_19) rfl) ?_
  obtain ⟨T165, h165, k165, X165, e165, E165, A165, st165⟩ := newP X164 hx hZ (ow hw 120 rfl) e164 (g := (mkF m 20 #[rv a, rv ls, iv 3, uv, uv, uv, uv, uv, uv, uv] [(.int 3), (.ref a)])) rfl (hb hby d77m1_20) rfl (by decide) (cap := 3) (by decide) (by decide) (by decide) (by decide)
  have V165' := V164.newArr Z164 E165 A165 3 rfl
  have Z165 : n0 ≤ h165.size := Nat.le_trans Z164 E165.1
  obtain ⟨b165, g165⟩ : ∃ z, z = h164.size := ⟨_, rfl⟩
  rw [← g165] at V165' st165
  have V165 : OView Z n0 h165 (oI b165 [0, 0, 0] :: oI b163 [0, 0, 0] :: oL ls [(.int 3), (.ref b), (.int 3)] :: oY a [(.ref b163), .null, .null, .null, .null, (.int 0)] :: oO3 b x0 x1 x2 :: oV x0 [.null, .null, (.ref eA), (.int iA), .null] :: oV x1 [.null, .null, (.ref eB), (.int iB), .null] :: oV x2 [.null, .null, (.ref eC), (.int iC), .null] :: oD eA [(.int 0), (.int lA), (.int hA)] :: oD eB [(.int 0), (.int lB), (.int hB)] :: oD eC [(.int 0), (.int lC), (.int hC)] :: F) := V165'
  refine og st165 ?_
  obtain ⟨T166, h166, X166, e166, W166, st166⟩ := putF X165 hx hZ hown (host := "") (Or.inl (ow hw 123 rfl)) Via.refl e165 (V165.fld 3 rfl 1 rfl rfl) (V165.exa 3 rfl) (Or.inr ⟨(ow hw 124 rfl), rfl, hnm⟩) (ow hw 105 rfl) (ty := (.array .int)) (by decide) rfl rfl (g := (mkF m 22 #[rv a, rv ls, iv 3, uv, uv, uv, uv, uv, uv, uv] [(.ref b165), (.ref a)])) rfl rfl (hb hby d77m1_22)
  have V166 : OView Z n0 h166 (oI b165 [0, 0, 0] :: oI b163 [0, 0, 0] :: oL ls [(.int 3), (.ref b), (.int 3)] :: oY a [(.ref b163), (.ref b165), .null, .null, .null, (.int 0)] :: oO3 b x0 x1 x2 :: oV x0 [.null, .null, (.ref eA), (.int iA), .null] :: oV x1 [.null, .null, (.ref eB), (.int iB), .null] :: oV x2 [.null, .null, (.ref eC), (.int iC), .null] :: oD eA [(.int 0), (.int lA), (.int hA)] :: oD eB [(.int 0), (.int lB), (.int hB)] :: oD eC [(.int 0), (.int lC), (.int hC)] :: F) := V165.putF 3 rfl 1 rfl W166
  have N166 := Fr.snoc X166 N164 (V165.old 3 rfl)
  have Z166 : n0 ≤ h166.size := by rw [W166.size]; exact Z165
  refine og st166 ?_
  refine og (fun _ => XS.aloadN X166.here hx rfl (hb hby d77m1_25) rfl rfl) ?_
  refine og (fun _ => XS.iloadN X166.here hx rfl (hb hby d77m1_26) rfl) ?_
  obtain ⟨T167, h167, k167, X167, e167, E167, A167, st167⟩ := newP X166 hx hZ (ow hw 120 rfl) e166 (g := (mkF m 27 #[rv a, rv ls, iv 3, uv, uv, uv, uv, uv, uv, uv] [(.int 3), (.ref a)])) rfl (hb hby d77m1_27) rfl (by decide) (cap := 3) (by decide) (by decide) (by decide) (by decide)
  have V167' := V166.newArr Z166 E167 A167 3 rfl
  have Z167 : n0 ≤ h167.size := Nat.le_trans Z166 E167.1
  obtain ⟨b167, g167⟩ : ∃ z, z = h166.size := ⟨_, rfl⟩
  rw [← g167] at V167' st167
  have V167 : OView Z n0 h167 (oI b167 [0, 0, 0] :: oI b165 [0, 0, 0] :: oI b163 [0, 0, 0] :: oL ls [(.int 3), (.ref b), (.int 3)] :: oY a [(.ref b163), (.ref b165), .null, .null, .null, (.int 0)] :: oO3 b x0 x1 x2 :: oV x0 [.null, .null, (.ref eA), (.int iA), .null] :: oV x1 [.null, .null, (.ref eB), (.int iB), .null] :: oV x2 [.null, .null, (.ref eC), (.int iC), .null] :: oD eA [(.int 0), (.int lA), (.int hA)] :: oD eB [(.int 0), (.int lB), (.int hB)] :: oD eC [(.int 0), (.int lC), (.int hC)] :: F) := V167'
  refine og st167 ?_
  obtain ⟨T168, h168, X168, e168, W168, st168⟩ := putF X167 hx hZ hown (host := "") (Or.inl (ow hw 125 rfl)) Via.refl e167 (V167.fld 4 rfl 2 rfl rfl) (V167.exa 4 rfl) (Or.inr ⟨(ow hw 126 rfl), rfl, hnm⟩) (ow hw 105 rfl) (ty := (.array .int)) (by decide) rfl rfl (g := (mkF m 29 #[rv a, rv ls, iv 3, uv, uv, uv, uv, uv, uv, uv] [(.ref b167), (.ref a)])) rfl rfl (hb hby d77m1_29)
  have V168 : OView Z n0 h168 (oI b167 [0, 0, 0] :: oI b165 [0, 0, 0] :: oI b163 [0, 0, 0] :: oL ls [(.int 3), (.ref b), (.int 3)] :: oY a [(.ref b163), (.ref b165), (.ref b167), .null, .null, (.int 0)] :: oO3 b x0 x1 x2 :: oV x0 [.null, .null, (.ref eA), (.int iA), .null] :: oV x1 [.null, .null, (.ref eB), (.int iB), .null] :: oV x2 [.null, .null, (.ref eC), (.int iC), .null] :: oD eA [(.int 0), (.int lA), (.int hA)] :: oD eB [(.int 0), (.int lB), (.int hB)] :: oD eC [(.int 0), (.int lC), (.int hC)] :: F) := V167.putF 4 rfl 2 rfl W168
  have N168 := Fr.snoc X168 N166 (V167.old 4 rfl)
  have Z168 : n0 ≤ h168.size := by rw [W168.size]; exact Z167
  refine og st168 ?_
  refine og (fun _ => XS.aloadN X168.here hx rfl (hb hby d77m1_32) rfl rfl) ?_
  refine og (fun _ => XS.iloadN X168.here hx rfl (hb hby d77m1_33) rfl) ?_
  obtain ⟨T169, h169, k169, X169, e169, E169, A169, st169⟩ := newP X168 hx hZ (ow hw 127 rfl) e168 (g := (mkF m 34 #[rv a, rv ls, iv 3, uv, uv, uv, uv, uv, uv, uv] [(.int 3), (.ref a)])) rfl (hb hby d77m1_34) rfl (by decide) (cap := 3) (by decide) (by decide) (by decide) (by decide)
  have V169' := V168.newArr Z168 E169 A169 3 rfl
  have Z169 : n0 ≤ h169.size := Nat.le_trans Z168 E169.1
  obtain ⟨b169, g169⟩ : ∃ z, z = h168.size := ⟨_, rfl⟩
  rw [← g169] at V169' st169
  have V169 : OView Z n0 h169 (oK b169 [0, 0, 0] :: oI b167 [0, 0, 0] :: oI b165 [0, 0, 0] :: oI b163 [0, 0, 0] :: oL ls [(.int 3), (.ref b), (.int 3)] :: oY a [(.ref b163), (.ref b165), (.ref b167), .null, .null, (.int 0)] :: oO3 b x0 x1 x2 :: oV x0 [.null, .null, (.ref eA), (.int iA), .null] :: oV x1 [.null, .null, (.ref eB), (.int iB), .null] :: oV x2 [.null, .null, (.ref eC), (.int iC), .null] :: oD eA [(.int 0), (.int lA), (.int hA)] :: oD eB [(.int 0), (.int lB), (.int hB)] :: oD eC [(.int 0), (.int lC), (.int hC)] :: F) := V169'
  refine og st169 ?_
  obtain ⟨T170, h170, X170, e170, W170, st170⟩ := putF X169 hx hZ hown (host := "") (Or.inl (ow hw 128 rfl)) Via.refl e169 (V169.fld 5 rfl 3 rfl rfl) (V169.exa 5 rfl) (Or.inr ⟨(ow hw 129 rfl), rfl, hnm⟩) (ow hw 105 rfl) (ty := (.array .long)) (by decide) rfl rfl (g := (mkF m 36 #[rv a, rv ls, iv 3, uv, uv, uv, uv, uv, uv, uv] [(.ref b169), (.ref a)])) rfl rfl (hb hby d77m1_36)
  have V170 : OView Z n0 h170 (oK b169 [0, 0, 0] :: oI b167 [0, 0, 0] :: oI b165 [0, 0, 0] :: oI b163 [0, 0, 0] :: oL ls [(.int 3), (.ref b), (.int 3)] :: oY a [(.ref b163), (.ref b165), (.ref b167), (.ref b169), .null, (.int 0)] :: oO3 b x0 x1 x2 :: oV x0 [.null, .null, (.ref eA), (.int iA), .null] :: oV x1 [.null, .null, (.ref eB), (.int iB), .null] :: oV x2 [.null, .null, (.ref eC), (.int iC), .null] :: oD eA [(.int 0), (.int lA), (.int hA)] :: oD eB [(.int 0), (.int lB), (.int hB)] :: oD eC [(.int 0), (.int lC), (.int hC)] :: F) := V169.putF 5 rfl 3 rfl W170
  have N170 := Fr.snoc X170 N168 (V169.old 5 rfl)
  have Z170 : n0 ≤ h170.size := by rw [W170.size]; exact Z169
  refine og st170 ?_
  refine og (fun _ => XS.aloadN X170.here hx rfl (hb hby d77m1_39) rfl rfl) ?_
  refine og (fun _ => XS.iloadN X170.here hx rfl (hb hby d77m1_40) rfl) ?_
  obtain ⟨T171, h171, k171, X171, e171, E171, A171, st171⟩ := newP X170 hx hZ (ow hw 120 rfl) e170 (g := (mkF m 41 #[rv a, rv ls, iv 3, uv, uv, uv, uv, uv, uv, uv] [(.int 3), (.ref a)])) rfl (hb hby d77m1_41) rfl (by decide) (cap := 3) (by decide) (by decide) (by decide) (by decide)
  have V171' := V170.newArr Z170 E171 A171 3 rfl
  have Z171 : n0 ≤ h171.size := Nat.le_trans Z170 E171.1
  obtain ⟨b171, g171⟩ : ∃ z, z = h170.size := ⟨_, rfl⟩
  rw [← g171] at V171' st171
  have V171 : OView Z n0 h171 (oI b171 [0, 0, 0] :: oK b169 [0, 0, 0] :: oI b167 [0, 0, 0] :: oI b165 [0, 0, 0] :: oI b163 [0, 0, 0] :: oL ls [(.int 3), (.ref b), (.int 3)] :: oY a [(.ref b163), (.ref b165), (.ref b167), (.ref b169), .null, (.int 0)] :: oO3 b x0 x1 x2 :: oV x0 [.null, .null, (.ref eA), (.int iA), .null] :: oV x1 [.null, .null, (.ref eB), (.int iB), .null] :: oV x2 [.null, .null, (.ref eC), (.int iC), .null] :: oD eA [(.int 0), (.int lA), (.int hA)] :: oD eB [(.int 0), (.int lB), (.int hB)] :: oD eC [(.int 0), (.int lC), (.int hC)] :: F) := V171'
  refine og st171 ?_
  obtain ⟨T172, h172, X172, e172, W172, st172⟩ := putF X171 hx hZ hown (host := "") (Or.inl (ow hw 130 rfl)) Via.refl e171 (V171.fld 6 rfl 4 rfl rfl) (V171.exa 6 rfl) (Or.inr ⟨(ow hw 131 rfl), rfl, hnm⟩) (ow hw 105 rfl) (ty := (.array .int)) (by decide) rfl rfl (g := (mkF m 43 #[rv a, rv ls, iv 3, uv, uv, uv, uv, uv, uv, uv] [(.ref b171), (.ref a)])) rfl rfl (hb hby d77m1_43)
  have V172 : OView Z n0 h172 (oI b171 [0, 0, 0] :: oK b169 [0, 0, 0] :: oI b167 [0, 0, 0] :: oI b165 [0, 0, 0] :: oI b163 [0, 0, 0] :: oL ls [(.int 3), (.ref b), (.int 3)] :: oY a [(.ref b163), (.ref b165), (.ref b167), (.ref b169), (.ref b171), (.int 0)] :: oO3 b x0 x1 x2 :: oV x0 [.null, .null, (.ref eA), (.int iA), .null] :: oV x1 [.null, .null, (.ref eB), (.int iB), .null] :: oV x2 [.null, .null, (.ref eC), (.int iC), .null] :: oD eA [(.int 0), (.int lA), (.int hA)] :: oD eB [(.int 0), (.int lB), (.int hB)] :: oD eC [(.int 0), (.int lC), (.int hC)] :: F) := V171.putF 6 rfl 4 rfl W172
  have N172 := Fr.snoc X172 N170 (V171.old 6 rfl)
  have Z172 : n0 ≤ h172.size := by rw [W172.size]; exact Z171
  refine og st172 ?_
  refine og (fun _ => XS.iconst X172.here hx rfl (hb hby d77m1_46)) ?_
  refine og (fun _ => XS.istoreN X172.here hx rfl (hb hby d77m1_47) rfl (l' := #[rv a, rv ls, iv 3, iv 0, uv, uv, uv, uv, uv, uv]) rfl) ?_
  refine og (fun _ => XS.iconst X172.here hx rfl (hb hby d77m1_48)) ?_
  refine og (fun _ => XS.istore X172.here hx rfl (hb hby d77m1_49) rfl (l' := #[rv a, rv ls, iv 3, iv 0, iv 0, uv, uv, uv, uv, uv]) rfl) ?_
  refine og (fun _ => XS.iconst X172.here hx rfl (hb hby d77m1_51)) ?_
  show OGets p e below _ (T172.setTop (mkF m 52 #[rv a, rv ls, iv 3, iv 0, iv 0, uv, uv, uv, uv, uv] [(.int 0)]))
  refine og (fun _ => XS.istore X172.here hx rfl (hb hby d77m1_52) rfl (l' := #[rv a, rv ls, iv 3, iv 0, iv 0, iv 0, uv, uv, uv, uv]) rfl) ?_
  refine og (fun _ => XS.iload X172.here hx rfl (hb hby d77m1_54) rfl) ?_
  refine og (fun _ => XS.iloadN X172.here hx rfl (hb hby d77m1_56) rfl) ?_
  refine og (fun _ => XS.icmpNo X172.here hx rfl (hb hby d77m1_57) rfl (tlt (by decide : (0 : Int32) < (3 : Int32))).2.1) ?_
  refine og (fun _ => XS.aloadN X172.here hx rfl (hb hby d77m1_60) rfl rfl) ?_
  refine og (fun _ => XS.iload X172.here hx rfl (hb hby d77m1_61) rfl) ?_
  show OGets p e below _ (T172.setTop (mkF m 63 #[rv a, rv ls, iv 3, iv 0, iv 0, iv 0, uv, uv, uv, uv] [(.int 0), (.ref ls)]))
  have V174_ : OView Z _ h172 (oL ls [(.int 3), (.ref b), (.int 3)] :: oO3 b x0 x1 x2 :: oI b171 [0, 0, 0] :: oK b169 [0, 0, 0] :: oI b167 [0, 0, 0] :: oI b165 [0, 0, 0] :: oI b163 [0, 0, 0] :: oY a [(.ref b163), (.ref b165), (.ref b167), (.ref b169), (.ref b171), (.int 0)] :: oV x0 [.null, .null, (.ref eA), (.int iA), .null] :: oV x1 [.null, .null, (.ref eB), (.int iB), .null] :: oV x2 [.null, .null, (.ref eC), (.int iC), .null] :: oD eA [(.int 0), (.int lA), (.int hA)] :: oD eB [(.int 0), (.int lB), (.int hB)] :: oD eC [(.int 0), (.int lC), (.int hC)] :: F) := ((V172.bring 7 rfl).bring 6 rfl)
  obtain ⟨cq174, kq174, q174a, q174b, q174c⟩ := isOf hZ e172 (V174_.exa 0 rfl)
  obtain ⟨_, _, ⟨T174, L174, k174, n174⟩, -, X174, ⟨Lc174, hQ174, l174, y174, z174⟩, st174⟩ := X172.interfaceBack hx (xi := (⟨"java/util/List", "get", "(I)Ljava/lang/Object;"⟩ : MethodName)) (y := (⟨"java/util/ArrayList", "get", "(I)Ljava/lang/Object;"⟩ : MethodName)) hown (mvT hZ (ow hw 132 rfl)) (mvT hZ (ow hw 133 rfl)) (mvT hZ (ow hw 134 rfl)) (mvT hZ (ow hw 135 rfl)) (mvT hZ (ow hw 136 rfl)) (mvT hZ (ow hw 137 rfl)) (mvT hZ (ow hw 138 rfl)) (mvT hZ (ow hw 118 rfl)) (by decide) (backOf (W := 0) (rm_get0 l Z a0 hw [] ls b x0 x1 x2 h172 n0 _ Z172  V174_) hZ (ow hw 139 rfl) (ow hw 11 rfl) (by decide) (by decide)) q174a q174b q174c (g := (mkF m 63 #[rv a, rv ls, iv 3, iv 0, iv 0, iv 0, uv, uv, uv, uv] [(.int 0), (.ref ls)])) rfl (by rw [hml]; rfl) (Steps.refl _) (argsL := [(.int 0)]) (rest := []) (lenOf pd_19 rfl) rfl (by show 2 * 0 + _ ≤ _; exact Nat.le_of_eq rfl) (hb hby d77m1_63) (fun _ _ => ⟨rfl, e172, nb rfl, nb rfl⟩)
  dsimp only [Pt.U, Pt.locs, Pt.cells, Pt.slots] at X174 l174 y174 z174 st174 hQ174
  rw [l174, y174, z174] at X174
  obtain ⟨rfl, rfl, e174⟩ := hQ174
  have N174 := Fr.app N172 (Fr.nil n0)
  refine OGets.after st174 ?_
  obtain ⟨T175, X175, e175, st175⟩ := castY X174 hx hZ hown (ow hw 153 rfl) e174 (Ins.self (V174_.exa 8 rfl)) (g := (mkF m 68 #[rv a, rv ls, iv 3, iv 0, iv 0, iv 0, uv, uv, uv, uv] [(.ref x0)])) rfl rfl (hb hby d77m1_68)
  refine og st175 ?_
  refine og (fun _ => XS.astore X175.here hx rfl (hb hby d77m1_71) rfl rfl (l' := #[rv a, rv ls, iv 3, iv 0, iv 0, iv 0, rv x0, uv, uv, uv]) rfl) ?_
  refine og (fun _ => XS.aload X175.here hx rfl (hb hby d77m1_73) rfl rfl) ?_
  have V176_ : OView Z _ h172 (oV x0 [.null, .null, (.ref eA), (.int iA), .null] :: oL ls [(.int 3), (.ref b), (.int 3)] :: oO3 b x0 x1 x2 :: oI b171 [0, 0, 0] :: oK b169 [0, 0, 0] :: oI b167 [0, 0, 0] :: oI b165 [0, 0, 0] :: oI b163 [0, 0, 0] :: oY a [(.ref b163), (.ref b165), (.ref b167), (.ref b169), (.ref b171), (.int 0)] :: oV x1 [.null, .null, (.ref eB), (.int iB), .null] :: oV x2 [.null, .null, (.ref eC), (.int iC), .null] :: oD eA [(.int 0), (.int lA), (.int hA)] :: oD eB [(.int 0), (.int lB), (.int hB)] :: oD eC [(.int 0), (.int lC), (.int hC)] :: F) := (V174_.bring 8 rfl)
  obtain ⟨cq176, kq176, q176a, q176b, q176c⟩ := isOf hZ e175 (V176_.exa 0 rfl)
  obtain ⟨_, _, ⟨T176, L176, k176, n176⟩, -, X176, ⟨Lc176, hQ176, l176, y176, z176⟩, st176⟩ := X175.virtualBack hx (y := (⟨"com/example/inya/inya/Variable", "domain", "()Lcom/example/inya/inya/Domain;"⟩ : MethodName)) (z := (⟨"com/example/inya/inya/Variable", "domain", "()Lcom/example/inya/inya/Domain;"⟩ : MethodName)) hown (mvT hZ (ow hw 155 rfl)) (mvT hZ (ow hw 156 rfl)) (notFace_of_selects (args := #[]) (mvT hZ (ow hw 158 rfl))) (mvT hZ (ow hw 158 rfl)) (mvT hZ (ow hw 157 rfl)) (by decide) (backOf (W := 0) (rm_vdo l Z a0 hw [] x0 eA iA h172 n0 _ Z172  V176_) hZ (ow hw 159 rfl) (ow hw 37 rfl) (by decide) (by decide)) q176a q176c (g := (mkF m 75 #[rv a, rv ls, iv 3, iv 0, iv 0, iv 0, rv x0, uv, uv, uv] [(.ref x0)])) rfl (by rw [hml]; rfl) (Steps.refl _) (argsL := []) (rest := []) (lenOf pd_22 rfl) rfl (by show 2 * 0 + _ ≤ _; exact Nat.le_of_eq rfl) (hb hby d77m1_75) (fun _ _ => ⟨rfl, e175, nb rfl, nb rfl⟩)
  dsimp only [Pt.U, Pt.locs, Pt.cells, Pt.slots] at X176 l176 y176 z176 st176 hQ176
  rw [l176, y176, z176] at X176
  obtain ⟨rfl, rfl, e176⟩ := hQ176
  have N176 := Fr.app N174 (Fr.nil n0)
  refine OGets.after st176 ?_
  have V177_ : OView Z _ h172 (oD eA [(.int 0), (.int lA), (.int hA)] :: oV x0 [.null, .null, (.ref eA), (.int iA), .null] :: oL ls [(.int 3), (.ref b), (.int 3)] :: oO3 b x0 x1 x2 :: oI b171 [0, 0, 0] :: oK b169 [0, 0, 0] :: oI b167 [0, 0, 0] :: oI b165 [0, 0, 0] :: oI b163 [0, 0, 0] :: oY a [(.ref b163), (.ref b165), (.ref b167), (.ref b169), (.ref b171), (.int 0)] :: oV x1 [.null, .null, (.ref eB), (.int iB), .null] :: oV x2 [.null, .null, (.ref eC), (.int iC), .null] :: oD eB [(.int 0), (.int lB), (.int hB)] :: oD eC [(.int 0), (.int lC), (.int hC)] :: F) := (V176_.bring 11 rfl)
  obtain ⟨cq177, kq177, q177a, q177b, q177c⟩ := isOf hZ e176 (V177_.exa 0 rfl)
  obtain ⟨_, _, ⟨T177, L177, k177, n177⟩, -, X177, ⟨Lc177, hQ177, l177, y177, z177⟩, st177⟩ := X176.virtualBack hx (y := (⟨"com/example/inya/inya/Domain", "size", "()J"⟩ : MethodName)) (z := (⟨"com/example/inya/inya/Domain", "size", "()J"⟩ : MethodName)) hown (mvT hZ (ow hw 160 rfl)) (mvT hZ (ow hw 161 rfl)) (notFace_of_selects (args := #[]) (mvT hZ (ow hw 163 rfl))) (mvT hZ (ow hw 163 rfl)) (mvT hZ (ow hw 162 rfl)) (by decide) (backOf (W := 0) (rm_dsz l Z a0 hw [] eA lA hA h172 n0 _ Z172  V177_) hZ (ow hw 164 rfl) (ow hw 40 rfl) (by decide) (by decide)) q177a q177c (g := (mkF m 78 #[rv a, rv ls, iv 3, iv 0, iv 0, iv 0, rv x0, uv, uv, uv] [(.ref eA)])) rfl (by rw [hml]; rfl) (Steps.refl _) (argsL := []) (rest := []) (lenOf pd_23 rfl) rfl (by show 2 * 0 + _ ≤ _; exact Nat.le_of_eq rfl) (hb hby d77m1_78) (fun _ _ => ⟨rfl, e176, nb rfl, nb rfl⟩)
  dsimp only [Pt.U, Pt.locs, Pt.cells, Pt.slots] at X177 l177 y177 z177 st177 hQ177
  rw [l177, y177, z177] at X177
  obtain ⟨rfl, rfl, e177⟩ := hQ177
  have N177 := Fr.app N176 (Fr.nil n0)
  refine OGets.after st177 ?_
  refine og (fun _ => XS.lstore X177.here hx rfl (hb hby d77m1_81) rfl (l' := #[rv a, rv ls, iv 3, iv 0, iv 0, iv 0, rv x0, .val (.long (((hA.toInt64) - (lA.toInt64)) + (1 : Int64))), sv, uv]) rfl) ?_
  refine og (fun _ => XS.bipush X177.here hx rfl (hb hby d77m1_83)) ?_
  refine og (fun _ => XS.lload X177.here hx rfl (hb hby d77m1_85) rfl) ?_
  refine og (fun _ => XS.lconst X177.here hx rfl (hb hby d77m1_87)) ?_
  refine og (fun _ => XS.lsub X177.here hx rfl (hb hby d77m1_88) rfl) ?_
  show OGets p e below _ (T177.setTop (mkF m 89 #[rv a, rv ls, iv 3, iv 0, iv 0, iv 0, rv x0, .val (.long (((hA.toInt64) - (lA.toInt64)) + (1 : Int64))), sv, uv] [(.long ((((hA.toInt64) - (lA.toInt64)) + (1 : Int64)) - (1 : Int64))), (.int 64)]))
  obtain ⟨_, _, ⟨T178, L178, k178, n178⟩, -, X178, ⟨Lc178, hQ178, l178, y178, z178⟩, st178⟩ := Jvm.LawKit.callS X177 hx (y := (⟨"java/lang/Long", "numberOfLeadingZeros", "(J)I"⟩ : MethodName)) hown (mvT hZ (ow hw 165 rfl)) (mvT hZ (ow hw 166 rfl)) (mvT hZ (ow hw 167 rfl)) (mvT hZ (ow hw 168 rfl)) (by decide) (backOf (W := 1) (rm_nl l Z a0 hw [] ((((hA.toInt64) - (lA.toInt64)) + (1 : Int64)) - (1 : Int64)) h172 n0  Z172 ) hZ (ow hw 168 rfl) (ow hw 167 rfl) (by decide) (by decide)) (g := (mkF m 89 #[rv a, rv ls, iv 3, iv 0, iv 0, iv 0, rv x0, .val (.long (((hA.toInt64) - (lA.toInt64)) + (1 : Int64))), sv, uv] [(.long ((((hA.toInt64) - (lA.toInt64)) + (1 : Int64)) - (1 : Int64))), (.int 64)])) rfl (by rw [hml]; rfl) (argsL := [(.long ((((hA.toInt64) - (lA.toInt64)) + (1 : Int64)) - (1 : Int64)))]) (rest := [(.int 64)]) (lenOf pd_24 rfl) rfl (by show 2 * 0 + _ ≤ _; exact Nat.le_of_eq rfl) (hb hby d77m1_89) (fun _ _ => ⟨rfl, e177, nb rfl, nb rfl⟩)
  dsimp only [Pt.U, Pt.locs, Pt.cells, Pt.slots] at X178 l178 y178 z178 st178 hQ178
  rw [l178, y178, z178] at X178
  obtain ⟨rfl, rfl, e178⟩ := hQ178
  have N178 := Fr.app N177 (Fr.nil n0)
  refine og st178 ?_
  refine og (fun _ => XS.isub X178.here hx rfl (hb hby d77m1_92) rfl) ?_
  show OGets p e below _ (T178.setTop (mkF m 93 #[rv a, rv ls, iv 3, iv 0, iv 0, iv 0, rv x0, .val (.long (((hA.toInt64) - (lA.toInt64)) + (1 : Int64))), sv, uv] [(.int (bt lA hA))]))
  refine og (fun _ => XS.istore X178.here hx rfl (hb hby d77m1_93) rfl (l' := #[rv a, rv ls, iv 3, iv 0, iv 0, iv 0, rv x0, .val (.long (((hA.toInt64) - (lA.toInt64)) + (1 : Int64))), sv, iv (bt lA hA)]) rfl) ?_
  refine og (fun _ => XS.iload X178.here hx rfl (hb hby d77m1_95) rfl) ?_
  refine og (fun _ => XS.iload X178.here hx rfl (hb hby d77m1_97) rfl) ?_
  refine og (fun _ => XS.iadd X178.here hx rfl (hb hby d77m1_99) rfl) ?_
  refine og (fun _ => XS.bipush X178.here hx rfl (hb hby d77m1_100)) ?_
  refine og (fun _ => XS.icmpYes X178.here hx rfl (pc0 := 102) (pc' := 111) rfl (hb hby d77m1_102) rfl (flt (hb0 : ¬ ((64 : Int32) < ((0 : Int32) + (bt lA hA))))).2.2.2 (by decide) (by decide)) ?_
  show OGets p e below _ (T178.setTop (mkF m 111 #[rv a, rv ls, iv 3, iv 0, iv 0, iv 0, rv x0, .val (.long (((hA.toInt64) - (lA.toInt64)) + (1 : Int64))), sv, iv (bt lA hA)] []))
  refine og (fun _ => XS.aloadN X178.here hx rfl (hb hby d77m1_111) rfl rfl) ?_
  obtain ⟨T180, X180, e180, st180⟩ := getF X178 hx hZ hown (host := "") (Or.inl (ow hw 121 rfl)) Via.refl e178 (V177_.fld 9 rfl 0 rfl rfl) (g := (mkF m 112 #[rv a, rv ls, iv 3, iv 0, iv 0, iv 0, rv x0, .val (.long (((hA.toInt64) - (lA.toInt64)) + (1 : Int64))), sv, iv (bt lA hA)] [(.ref a)])) rfl rfl (hb hby d77m1_112)
  refine og st180 ?_
  refine og (fun _ => XS.iload X180.here hx rfl (hb hby d77m1_115) rfl) ?_
  refine og (fun _ => XS.aload X180.here hx rfl (hb hby d77m1_117) rfl rfl) ?_
  have V181_ : OView Z _ h172 (oV x0 [.null, .null, (.ref eA), (.int iA), .null] :: oD eA [(.int 0), (.int lA), (.int hA)] :: oL ls [(.int 3), (.ref b), (.int 3)] :: oO3 b x0 x1 x2 :: oI b171 [0, 0, 0] :: oK b169 [0, 0, 0] :: oI b167 [0, 0, 0] :: oI b165 [0, 0, 0] :: oI b163 [0, 0, 0] :: oY a [(.ref b163), (.ref b165), (.ref b167), (.ref b169), (.ref b171), (.int 0)] :: oV x1 [.null, .null, (.ref eB), (.int iB), .null] :: oV x2 [.null, .null, (.ref eC), (.int iC), .null] :: oD eB [(.int 0), (.int lB), (.int hB)] :: oD eC [(.int 0), (.int lC), (.int hC)] :: F) := (V177_.bring 1 rfl)
  obtain ⟨cq181, kq181, q181a, q181b, q181c⟩ := isOf hZ e180 (V181_.exa 0 rfl)
  obtain ⟨_, _, ⟨T181, L181, k181, n181⟩, -, X181, ⟨Lc181, hQ181, l181, y181, z181⟩, st181⟩ := X180.virtualBack hx (y := (⟨"com/example/inya/inya/Variable", "index", "()I"⟩ : MethodName)) (z := (⟨"com/example/inya/inya/Variable", "index", "()I"⟩ : MethodName)) hown (mvT hZ (ow hw 174 rfl)) (mvT hZ (ow hw 175 rfl)) (notFace_of_selects (args := #[]) (mvT hZ (ow hw 177 rfl))) (mvT hZ (ow hw 177 rfl)) (mvT hZ (ow hw 176 rfl)) (by decide) (backOf (W := 2) (rm_vix l Z a0 hw [] x0 eA iA h172 n0 _ Z172  V181_) hZ (ow hw 178 rfl) (ow hw 37 rfl) (by decide) (by decide)) q181a q181c (g := (mkF m 119 #[rv a, rv ls, iv 3, iv 0, iv 0, iv 0, rv x0, .val (.long (((hA.toInt64) - (lA.toInt64)) + (1 : Int64))), sv, iv (bt lA hA)] [(.ref x0), (.int 0), (.ref b163)])) rfl (by rw [hml]; rfl) (Steps.refl _) (argsL := []) (rest := [(.int 0), (.ref b163)]) (lenOf pd_21 rfl) rfl (by show 2 * 0 + _ ≤ _; exact Nat.le_of_eq rfl) (hb hby d77m1_119) (fun _ _ => ⟨rfl, e180, nb rfl, nb rfl⟩)
  dsimp only [Pt.U, Pt.locs, Pt.cells, Pt.slots] at X181 l181 y181 z181 st181 hQ181
  rw [l181, y181, z181] at X181
  obtain ⟨rfl, rfl, e181⟩ := hQ181
  have N181 := Fr.app N178 (Fr.nil n0)
  refine OGets.after st181 ?_
  obtain ⟨cl182, Ar182, S182⟩ := V181_.arr 8 rfl
  obtain ⟨T182, h182, X182, e182, W182', st182⟩ := stI X181 hx hZ e181 Ar182 (j := (0 : Int32)) (own_inb S182 0 (by decide) (nb rfl)) (g := (mkF m 122 #[rv a, rv ls, iv 3, iv 0, iv 0, iv 0, rv x0, .val (.long (((hA.toInt64) - (lA.toInt64)) + (1 : Int64))), sv, iv (bt lA hA)] [(.int iA), (.int 0), (.ref b163)])) rfl rfl (hb hby d77m1_122)
  have W182 := own_wr (vs := []) 0 (by decide) W182'
  have V182 : OView Z n0 h182 (oV x0 [.null, .null, (.ref eA), (.int iA), .null] :: oD eA [(.int 0), (.int lA), (.int hA)] :: oL ls [(.int 3), (.ref b), (.int 3)] :: oO3 b x0 x1 x2 :: oI b171 [0, 0, 0] :: oK b169 [0, 0, 0] :: oI b167 [0, 0, 0] :: oI b165 [0, 0, 0] :: oI b163 [iA, 0, 0] :: oY a [(.ref b163), (.ref b165), (.ref b167), (.ref b169), (.ref b171), (.int 0)] :: oV x1 [.null, .null, (.ref eB), (.int iB), .null] :: oV x2 [.null, .null, (.ref eC), (.int iC), .null] :: oD eB [(.int 0), (.int lB), (.int hB)] :: oD eC [(.int 0), (.int lC), (.int hC)] :: F) := V181_.putA 8 rfl W182
  have N182 := Fr.snoc X182 N181 (V181_.old 8 rfl)
  have Z182 : n0 ≤ h182.size := by rw [W182.size]; exact Z172
  refine og st182 ?_
  refine og (fun _ => XS.aloadN X182.here hx rfl (hb hby d77m1_123) rfl rfl) ?_
  obtain ⟨T183, X183, e183, st183⟩ := getF X182 hx hZ hown (host := "") (Or.inl (ow hw 123 rfl)) Via.refl e182 (V182.fld 9 rfl 1 rfl rfl) (g := (mkF m 124 #[rv a, rv ls, iv 3, iv 0, iv 0, iv 0, rv x0, .val (.long (((hA.toInt64) - (lA.toInt64)) + (1 : Int64))), sv, iv (bt lA hA)] [(.ref a)])) rfl rfl (hb hby d77m1_124)
  refine og st183 ?_
  refine og (fun _ => XS.iload X183.here hx rfl (hb hby d77m1_127) rfl) ?_
  refine og (fun _ => XS.iloadN X183.here hx rfl (hb hby d77m1_129) rfl) ?_
  obtain ⟨cl184, Ar184, S184⟩ := V182.arr 7 rfl
  obtain ⟨T184, h184, X184, e184, W184', st184⟩ := stI X183 hx hZ e183 Ar184 (j := (0 : Int32)) (own_inb S184 0 (by decide) (nb rfl)) (g := (mkF m 130 #[rv a, rv ls, iv 3, iv 0, iv 0, iv 0, rv x0, .val (.long (((hA.toInt64) - (lA.toInt64)) + (1 : Int64))), sv, iv (bt lA hA)] [(.int 0), (.int 0), (.ref b165)])) rfl rfl (hb hby d77m1_130)
  have W184 := own_wr (vs := []) 0 (by decide) W184'
  have V184 : OView Z n0 h184 (oV x0 [.null, .null, (.ref eA), (.int iA), .null] :: oD eA [(.int 0), (.int lA), (.int hA)] :: oL ls [(.int 3), (.ref b), (.int 3)] :: oO3 b x0 x1 x2 :: oI b171 [0, 0, 0] :: oK b169 [0, 0, 0] :: oI b167 [0, 0, 0] :: oI b165 [0, 0, 0] :: oI b163 [iA, 0, 0] :: oY a [(.ref b163), (.ref b165), (.ref b167), (.ref b169), (.ref b171), (.int 0)] :: oV x1 [.null, .null, (.ref eB), (.int iB), .null] :: oV x2 [.null, .null, (.ref eC), (.int iC), .null] :: oD eB [(.int 0), (.int lB), (.int hB)] :: oD eC [(.int 0), (.int lC), (.int hC)] :: F) := V182.putA 7 rfl W184
  have N184 := Fr.snoc X184 N182 (V182.old 7 rfl)
  have Z184 : n0 ≤ h184.size := by rw [W184.size]; exact Z182
  refine og st184 ?_
  refine og (fun _ => XS.aloadN X184.here hx rfl (hb hby d77m1_131) rfl rfl) ?_
  obtain ⟨T185, X185, e185, st185⟩ := getF X184 hx hZ hown (host := "") (Or.inl (ow hw 125 rfl)) Via.refl e184 (V184.fld 9 rfl 2 rfl rfl) (g := (mkF m 132 #[rv a, rv ls, iv 3, iv 0, iv 0, iv 0, rv x0, .val (.long (((hA.toInt64) - (lA.toInt64)) + (1 : Int64))), sv, iv (bt lA hA)] [(.ref a)])) rfl rfl (hb hby d77m1_132)
  refine og st185 ?_
  refine og (fun _ => XS.iload X185.here hx rfl (hb hby d77m1_135) rfl) ?_
  refine og (fun _ => XS.iload X185.here hx rfl (hb hby d77m1_137) rfl) ?_
  obtain ⟨cl186, Ar186, S186⟩ := V184.arr 6 rfl
  obtain ⟨T186, h186, X186, e186, W186', st186⟩ := stI X185 hx hZ e185 Ar186 (j := (0 : Int32)) (own_inb S186 0 (by decide) (nb rfl)) (g := (mkF m 139 #[rv a, rv ls, iv 3, iv 0, iv 0, iv 0, rv x0, .val (.long (((hA.toInt64) - (lA.toInt64)) + (1 : Int64))), sv, iv (bt lA hA)] [(.int 0), (.int 0), (.ref b167)])) rfl rfl (hb hby d77m1_139)
  have W186 := own_wr (vs := []) 0 (by decide) W186'
  have V186 : OView Z n0 h186 (oV x0 [.null, .null, (.ref eA), (.int iA), .null] :: oD eA [(.int 0), (.int lA), (.int hA)] :: oL ls [(.int 3), (.ref b), (.int 3)] :: oO3 b x0 x1 x2 :: oI b171 [0, 0, 0] :: oK b169 [0, 0, 0] :: oI b167 [0, 0, 0] :: oI b165 [0, 0, 0] :: oI b163 [iA, 0, 0] :: oY a [(.ref b163), (.ref b165), (.ref b167), (.ref b169), (.ref b171), (.int 0)] :: oV x1 [.null, .null, (.ref eB), (.int iB), .null] :: oV x2 [.null, .null, (.ref eC), (.int iC), .null] :: oD eB [(.int 0), (.int lB), (.int hB)] :: oD eC [(.int 0), (.int lC), (.int hC)] :: F) := V184.putA 6 rfl W186
  have N186 := Fr.snoc X186 N184 (V184.old 6 rfl)
  have Z186 : n0 ≤ h186.size := by rw [W186.size]; exact Z184
  refine og st186 ?_
  refine og (fun _ => XS.aloadN X186.here hx rfl (hb hby d77m1_140) rfl rfl) ?_
  obtain ⟨T187, X187, e187, st187⟩ := getF X186 hx hZ hown (host := "") (Or.inl (ow hw 128 rfl)) Via.refl e186 (V186.fld 9 rfl 3 rfl rfl) (g := (mkF m 141 #[rv a, rv ls, iv 3, iv 0, iv 0, iv 0, rv x0, .val (.long (((hA.toInt64) - (lA.toInt64)) + (1 : Int64))), sv, iv (bt lA hA)] [(.ref a)])) rfl rfl (hb hby d77m1_141)
  refine og st187 ?_
  refine og (fun _ => XS.iload X187.here hx rfl (hb hby d77m1_144) rfl) ?_
  refine og (fun _ => XS.lconst X187.here hx rfl (hb hby d77m1_146)) ?_
  refine og (fun _ => XS.iload X187.here hx rfl (hb hby d77m1_147) rfl) ?_
  refine og (fun _ => XS.lshl X187.here hx rfl (hb hby d77m1_149) rfl) ?_
  refine og (fun _ => XS.lconst X187.here hx rfl (hb hby d77m1_150)) ?_
  show OGets p e below _ (T187.setTop (mkF m 151 #[rv a, rv ls, iv 3, iv 0, iv 0, iv 0, rv x0, .val (.long (((hA.toInt64) - (lA.toInt64)) + (1 : Int64))), sv, iv (bt lA hA)] [(.long (1 : Int64)), (.long ((1 : Int64) <<< ((bt lA hA) &&& 0x3f).toInt64)), (.int 0), (.ref b169)]))
  refine og (fun _ => XS.lsub X187.here hx rfl (hb hby d77m1_151) rfl) ?_
  show OGets p e below _ (T187.setTop (mkF m 152 #[rv a, rv ls, iv 3, iv 0, iv 0, iv 0, rv x0, .val (.long (((hA.toInt64) - (lA.toInt64)) + (1 : Int64))), sv, iv (bt lA hA)] [(.long (msk (bt lA hA))), (.int 0), (.ref b169)]))
  obtain ⟨cl188, Ar188, S188⟩ := V186.arr 5 rfl
  obtain ⟨T188, h188, X188, e188, W188', st188⟩ := stJ X187 hx hZ e187 Ar188 (j := (0 : Int32)) (own_inb S188 0 (by decide) (nb rfl)) (g := (mkF m 152 #[rv a, rv ls, iv 3, iv 0, iv 0, iv 0, rv x0, .val (.long (((hA.toInt64) - (lA.toInt64)) + (1 : Int64))), sv, iv (bt lA hA)] [(.long (msk (bt lA hA))), (.int 0), (.ref b169)])) rfl rfl (hb hby d77m1_152)
  have W188 := own_wr (vs := []) 0 (by decide) W188'
  have V188 : OView Z n0 h188 (oV x0 [.null, .null, (.ref eA), (.int iA), .null] :: oD eA [(.int 0), (.int lA), (.int hA)] :: oL ls [(.int 3), (.ref b), (.int 3)] :: oO3 b x0 x1 x2 :: oI b171 [0, 0, 0] :: oK b169 [(msk (bt lA hA)), 0, 0] :: oI b167 [0, 0, 0] :: oI b165 [0, 0, 0] :: oI b163 [iA, 0, 0] :: oY a [(.ref b163), (.ref b165), (.ref b167), (.ref b169), (.ref b171), (.int 0)] :: oV x1 [.null, .null, (.ref eB), (.int iB), .null] :: oV x2 [.null, .null, (.ref eC), (.int iC), .null] :: oD eB [(.int 0), (.int lB), (.int hB)] :: oD eC [(.int 0), (.int lC), (.int hC)] :: F) := V186.putA 5 rfl W188
  have N188 := Fr.snoc X188 N186 (V186.old 5 rfl)
  have Z188 : n0 ≤ h188.size := by rw [W188.size]; exact Z186
  refine og st188 ?_
  refine og (fun _ => XS.aloadN X188.here hx rfl (hb hby d77m1_153) rfl rfl) ?_
  obtain ⟨T189, X189, e189, st189⟩ := getF X188 hx hZ hown (host := "") (Or.inl (ow hw 130 rfl)) Via.refl e188 (V188.fld 9 rfl 4 rfl rfl) (g := (mkF m 154 #[rv a, rv ls, iv 3, iv 0, iv 0, iv 0, rv x0, .val (.long (((hA.toInt64) - (lA.toInt64)) + (1 : Int64))), sv, iv (bt lA hA)] [(.ref a)])) rfl rfl (hb hby d77m1_154)
  refine og st189 ?_
  refine og (fun _ => XS.iload X189.here hx rfl (hb hby d77m1_157) rfl) ?_
  refine og (fun _ => XS.aload X189.here hx rfl (hb hby d77m1_159) rfl rfl) ?_
  obtain ⟨cq190, kq190, q190a, q190b, q190c⟩ := isOf hZ e189 (V188.exa 0 rfl)
  obtain ⟨_, _, ⟨T190, L190, k190, n190⟩, -, X190, ⟨Lc190, hQ190, l190, y190, z190⟩, st190⟩ := X189.virtualBack hx (y := (⟨"com/example/inya/inya/Variable", "domain", "()Lcom/example/inya/inya/Domain;"⟩ : MethodName)) (z := (⟨"com/example/inya/inya/Variable", "domain", "()Lcom/example/inya/inya/Domain;"⟩ : MethodName)) hown (mvT hZ (ow hw 155 rfl)) (mvT hZ (ow hw 156 rfl)) (notFace_of_selects (args := #[]) (mvT hZ (ow hw 158 rfl))) (mvT hZ (ow hw 158 rfl)) (mvT hZ (ow hw 157 rfl)) (by decide) (backOf (W := 2) (rm_vdo l Z a0 hw [] x0 eA iA h188 n0 _ Z188  V188) hZ (ow hw 159 rfl) (ow hw 37 rfl) (by decide) (by decide)) q190a q190c (g := (mkF m 161 #[rv a, rv ls, iv 3, iv 0, iv 0, iv 0, rv x0, .val (.long (((hA.toInt64) - (lA.toInt64)) + (1 : Int64))), sv, iv (bt lA hA)] [(.ref x0), (.int 0), (.ref b171)])) rfl (by rw [hml]; rfl) (Steps.refl _) (argsL := []) (rest := [(.int 0), (.ref b171)]) (lenOf pd_22 rfl) rfl (by show 2 * 0 + _ ≤ _; exact Nat.le_of_eq rfl) (hb hby d77m1_161) (fun _ _ => ⟨rfl, e189, nb rfl, nb rfl⟩)
  dsimp only [Pt.U, Pt.locs, Pt.cells, Pt.slots] at X190 l190 y190 z190 st190 hQ190
  rw [l190, y190, z190] at X190
  obtain ⟨rfl, rfl, e190⟩ := hQ190
  have N190 := Fr.app N188 (Fr.nil n0)
  refine OGets.after st190 ?_
  have V191_ : OView Z _ h188 (oD eA [(.int 0), (.int lA), (.int hA)] :: oV x0 [.null, .null, (.ref eA), (.int iA), .null] :: oL ls [(.int 3), (.ref b), (.int 3)] :: oO3 b x0 x1 x2 :: oI b171 [0, 0, 0] :: oK b169 [(msk (bt lA hA)), 0, 0] :: oI b167 [0, 0, 0] :: oI b165 [0, 0, 0] :: oI b163 [iA, 0, 0] :: oY a [(.ref b163), (.ref b165), (.ref b167), (.ref b169), (.ref b171), (.int 0)] :: oV x1 [.null, .null, (.ref eB), (.int iB), .null] :: oV x2 [.null, .null, (.ref eC), (.int iC), .null] :: oD eB [(.int 0), (.int lB), (.int hB)] :: oD eC [(.int 0), (.int lC), (.int hC)] :: F) := (V188.bring 1 rfl)
  obtain ⟨cq191, kq191, q191a, q191b, q191c⟩ := isOf hZ e190 (V191_.exa 0 rfl)
  obtain ⟨_, _, ⟨T191, L191, k191, n191⟩, -, X191, ⟨Lc191, hQ191, l191, y191, z191⟩, st191⟩ := X190.virtualBack hx (y := (⟨"com/example/inya/inya/Domain", "lo", "()I"⟩ : MethodName)) (z := (⟨"com/example/inya/inya/Domain", "lo", "()I"⟩ : MethodName)) hown (mvT hZ (ow hw 179 rfl)) (mvT hZ (ow hw 180 rfl)) (notFace_of_selects (args := #[]) (mvT hZ (ow hw 182 rfl))) (mvT hZ (ow hw 182 rfl)) (mvT hZ (ow hw 181 rfl)) (by decide) (backOf (W := 2) (rm_dlo l Z a0 hw [] eA lA hA h188 n0 _ Z188  V191_) hZ (ow hw 183 rfl) (ow hw 40 rfl) (by decide) (by decide)) q191a q191c (g := (mkF m 164 #[rv a, rv ls, iv 3, iv 0, iv 0, iv 0, rv x0, .val (.long (((hA.toInt64) - (lA.toInt64)) + (1 : Int64))), sv, iv (bt lA hA)] [(.ref eA), (.int 0), (.ref b171)])) rfl (by rw [hml]; rfl) (Steps.refl _) (argsL := []) (rest := [(.int 0), (.ref b171)]) (lenOf pd_21 rfl) rfl (by show 2 * 0 + _ ≤ _; exact Nat.le_of_eq rfl) (hb hby d77m1_164) (fun _ _ => ⟨rfl, e190, nb rfl, nb rfl⟩)
  dsimp only [Pt.U, Pt.locs, Pt.cells, Pt.slots] at X191 l191 y191 z191 st191 hQ191
  rw [l191, y191, z191] at X191
  obtain ⟨rfl, rfl, e191⟩ := hQ191
  have N191 := Fr.app N190 (Fr.nil n0)
  refine OGets.after st191 ?_
  obtain ⟨cl192, Ar192, S192⟩ := V191_.arr 4 rfl
  obtain ⟨T192, h192, X192, e192, W192', st192⟩ := stI X191 hx hZ e191 Ar192 (j := (0 : Int32)) (own_inb S192 0 (by decide) (nb rfl)) (g := (mkF m 167 #[rv a, rv ls, iv 3, iv 0, iv 0, iv 0, rv x0, .val (.long (((hA.toInt64) - (lA.toInt64)) + (1 : Int64))), sv, iv (bt lA hA)] [(.int lA), (.int 0), (.ref b171)])) rfl rfl (hb hby d77m1_167)
  have W192 := own_wr (vs := []) 0 (by decide) W192'
  have V192 : OView Z n0 h192 (oD eA [(.int 0), (.int lA), (.int hA)] :: oV x0 [.null, .null, (.ref eA), (.int iA), .null] :: oL ls [(.int 3), (.ref b), (.int 3)] :: oO3 b x0 x1 x2 :: oI b171 [lA, 0, 0] :: oK b169 [(msk (bt lA hA)), 0, 0] :: oI b167 [0, 0, 0] :: oI b165 [0, 0, 0] :: oI b163 [iA, 0, 0] :: oY a [(.ref b163), (.ref b165), (.ref b167), (.ref b169), (.ref b171), (.int 0)] :: oV x1 [.null, .null, (.ref eB), (.int iB), .null] :: oV x2 [.null, .null, (.ref eC), (.int iC), .null] :: oD eB [(.int 0), (.int lB), (.int hB)] :: oD eC [(.int 0), (.int lC), (.int hC)] :: F) := V191_.putA 4 rfl W192
  have N192 := Fr.snoc X192 N191 (V191_.old 4 rfl)
  have Z192 : n0 ≤ h192.size := by rw [W192.size]; exact Z188
  refine og st192 ?_
  refine og (fun _ => XS.iload X192.here hx rfl (hb hby d77m1_168) rfl) ?_
  refine og (fun _ => XS.iload X192.here hx rfl (hb hby d77m1_170) rfl) ?_
  refine og (fun _ => XS.iadd X192.here hx rfl (hb hby d77m1_172) rfl) ?_
  refine og (fun _ => XS.istore X192.here hx rfl (hb hby d77m1_173) rfl (l' := #[rv a, rv ls, iv 3, iv 0, .val (.int ((0 : Int32) + (bt lA hA))), iv 0, rv x0, .val (.long (((hA.toInt64) - (lA.toInt64)) + (1 : Int64))), sv, iv (bt lA hA)]) rfl) ?_
  refine og (fun _ => XS.iinc X192.here hx rfl (hb hby d77m1_175) rfl (l' := #[rv a, rv ls, iv 3, iv 0, .val (.int ((0 : Int32) + (bt lA hA))), iv 1, rv x0, .val (.long (((hA.toInt64) - (lA.toInt64)) + (1 : Int64))), sv, iv (bt lA hA)]) rfl) ?_
  show OGets p e below _ (T192.setTop (mkF m 178 #[rv a, rv ls, iv 3, iv 0, .val (.int ((0 : Int32) + (bt lA hA))), iv 1, rv x0, .val (.long (((hA.toInt64) - (lA.toInt64)) + (1 : Int64))), sv, iv (bt lA hA)] []))
  refine og (fun _ => XS.goto X192.here hx rfl (pc0 := 178) (pc' := 54) rfl (hb hby d77m1_178) (by decide) (by decide)) ?_
  refine og (fun _ => XS.iload X192.here hx rfl (hb hby d77m1_54) rfl) ?_
  refine og (fun _ => XS.iloadN X192.here hx rfl (hb hby d77m1_56) rfl) ?_
  refine og (fun _ => XS.icmpNo X192.here hx rfl (hb hby d77m1_57) rfl (tlt (by decide : (1 : Int32) < (3 : Int32))).2.1) ?_
  refine og (fun _ => XS.aloadN X192.here hx rfl (hb hby d77m1_60) rfl rfl) ?_
  refine og (fun _ => XS.iload X192.here hx rfl (hb hby d77m1_61) rfl) ?_
  show OGets p e below _ (T192.setTop (mkF m 63 #[rv a, rv ls, iv 3, iv 0, .val (.int ((0 : Int32) + (bt lA hA))), iv 1, rv x0, .val (.long (((hA.toInt64) - (lA.toInt64)) + (1 : Int64))), sv, iv (bt lA hA)] [(.int 1), (.ref ls)]))
  have V194_ : OView Z _ h192 (oL ls [(.int 3), (.ref b), (.int 3)] :: oO3 b x0 x1 x2 :: oD eA [(.int 0), (.int lA), (.int hA)] :: oV x0 [.null, .null, (.ref eA), (.int iA), .null] :: oI b171 [lA, 0, 0] :: oK b169 [(msk (bt lA hA)), 0, 0] :: oI b167 [0, 0, 0] :: oI b165 [0, 0, 0] :: oI b163 [iA, 0, 0] :: oY a [(.ref b163), (.ref b165), (.ref b167), (.ref b169), (.ref b171), (.int 0)] :: oV x1 [.null, .null, (.ref eB), (.int iB), .null] :: oV x2 [.null, .null, (.ref eC), (.int iC), .null] :: oD eB [(.int 0), (.int lB), (.int hB)] :: oD eC [(.int 0), (.int lC), (.int hC)] :: F) := ((V192.bring 3 rfl).bring 3 rfl)
  obtain ⟨cq194, kq194, q194a, q194b, q194c⟩ := isOf hZ e192 (V194_.exa 0 rfl)
  obtain ⟨_, _, ⟨T194, L194, k194, n194⟩, -, X194, ⟨Lc194, hQ194, l194, y194, z194⟩, st194⟩ := X192.interfaceBack hx (xi := (⟨"java/util/List", "get", "(I)Ljava/lang/Object;"⟩ : MethodName)) (y := (⟨"java/util/ArrayList", "get", "(I)Ljava/lang/Object;"⟩ : MethodName)) hown (mvT hZ (ow hw 132 rfl)) (mvT hZ (ow hw 133 rfl)) (mvT hZ (ow hw 134 rfl)) (mvT hZ (ow hw 135 rfl)) (mvT hZ (ow hw 136 rfl)) (mvT hZ (ow hw 137 rfl)) (mvT hZ (ow hw 138 rfl)) (mvT hZ (ow hw 118 rfl)) (by decide) (backOf (W := 0) (rm_get1 l Z a0 hw [] ls b x0 x1 x2 h192 n0 _ Z192  V194_) hZ (ow hw 139 rfl) (ow hw 11 rfl) (by decide) (by decide)) q194a q194b q194c (g := (mkF m 63 #[rv a, rv ls, iv 3, iv 0, .val (.int ((0 : Int32) + (bt lA hA))), iv 1, rv x0, .val (.long (((hA.toInt64) - (lA.toInt64)) + (1 : Int64))), sv, iv (bt lA hA)] [(.int 1), (.ref ls)])) rfl (by rw [hml]; rfl) (Steps.refl _) (argsL := [(.int 1)]) (rest := []) (lenOf pd_19 rfl) rfl (by show 2 * 0 + _ ≤ _; exact Nat.le_of_eq rfl) (hb hby d77m1_63) (fun _ _ => ⟨rfl, e192, nb rfl, nb rfl⟩)
  dsimp only [Pt.U, Pt.locs, Pt.cells, Pt.slots] at X194 l194 y194 z194 st194 hQ194
  rw [l194, y194, z194] at X194
  obtain ⟨rfl, rfl, e194⟩ := hQ194
  have N194 := Fr.app N192 (Fr.nil n0)
  refine OGets.after st194 ?_
  obtain ⟨T195, X195, e195, st195⟩ := castY X194 hx hZ hown (ow hw 153 rfl) e194 (Ins.self (V194_.exa 10 rfl)) (g := (mkF m 68 #[rv a, rv ls, iv 3, iv 0, .val (.int ((0 : Int32) + (bt lA hA))), iv 1, rv x0, .val (.long (((hA.toInt64) - (lA.toInt64)) + (1 : Int64))), sv, iv (bt lA hA)] [(.ref x1)])) rfl rfl (hb hby d77m1_68)
  refine og st195 ?_
  refine og (fun _ => XS.astore X195.here hx rfl (hb hby d77m1_71) rfl rfl (l' := #[rv a, rv ls, iv 3, iv 0, .val (.int ((0 : Int32) + (bt lA hA))), iv 1, rv x1, .val (.long (((hA.toInt64) - (lA.toInt64)) + (1 : Int64))), sv, iv (bt lA hA)]) rfl) ?_
  refine og (fun _ => XS.aload X195.here hx rfl (hb hby d77m1_73) rfl rfl) ?_
  have V196_ : OView Z _ h192 (oV x1 [.null, .null, (.ref eB), (.int iB), .null] :: oL ls [(.int 3), (.ref b), (.int 3)] :: oO3 b x0 x1 x2 :: oD eA [(.int 0), (.int lA), (.int hA)] :: oV x0 [.null, .null, (.ref eA), (.int iA), .null] :: oI b171 [lA, 0, 0] :: oK b169 [(msk (bt lA hA)), 0, 0] :: oI b167 [0, 0, 0] :: oI b165 [0, 0, 0] :: oI b163 [iA, 0, 0] :: oY a [(.ref b163), (.ref b165), (.ref b167), (.ref b169), (.ref b171), (.int 0)] :: oV x2 [.null, .null, (.ref eC), (.int iC), .null] :: oD eB [(.int 0), (.int lB), (.int hB)] :: oD eC [(.int 0), (.int lC), (.int hC)] :: F) := (V194_.bring 10 rfl)
  obtain ⟨cq196, kq196, q196a, q196b, q196c⟩ := isOf hZ e195 (V196_.exa 0 rfl)
  obtain ⟨_, _, ⟨T196, L196, k196, n196⟩, -, X196, ⟨Lc196, hQ196, l196, y196, z196⟩, st196⟩ := X195.virtualBack hx (y := (⟨"com/example/inya/inya/Variable", "domain", "()Lcom/example/inya/inya/Domain;"⟩ : MethodName)) (z := (⟨"com/example/inya/inya/Variable", "domain", "()Lcom/example/inya/inya/Domain;"⟩ : MethodName)) hown (mvT hZ (ow hw 155 rfl)) (mvT hZ (ow hw 156 rfl)) (notFace_of_selects (args := #[]) (mvT hZ (ow hw 158 rfl))) (mvT hZ (ow hw 158 rfl)) (mvT hZ (ow hw 157 rfl)) (by decide) (backOf (W := 0) (rm_vdo l Z a0 hw [] x1 eB iB h192 n0 _ Z192  V196_) hZ (ow hw 159 rfl) (ow hw 37 rfl) (by decide) (by decide)) q196a q196c (g := (mkF m 75 #[rv a, rv ls, iv 3, iv 0, .val (.int ((0 : Int32) + (bt lA hA))), iv 1, rv x1, .val (.long (((hA.toInt64) - (lA.toInt64)) + (1 : Int64))), sv, iv (bt lA hA)] [(.ref x1)])) rfl (by rw [hml]; rfl) (Steps.refl _) (argsL := []) (rest := []) (lenOf pd_22 rfl) rfl (by show 2 * 0 + _ ≤ _; exact Nat.le_of_eq rfl) (hb hby d77m1_75) (fun _ _ => ⟨rfl, e195, nb rfl, nb rfl⟩)
  dsimp only [Pt.U, Pt.locs, Pt.cells, Pt.slots] at X196 l196 y196 z196 st196 hQ196
  rw [l196, y196, z196] at X196
  obtain ⟨rfl, rfl, e196⟩ := hQ196
  have N196 := Fr.app N194 (Fr.nil n0)
  refine OGets.after st196 ?_
  have V197_ : OView Z _ h192 (oD eB [(.int 0), (.int lB), (.int hB)] :: oV x1 [.null, .null, (.ref eB), (.int iB), .null] :: oL ls [(.int 3), (.ref b), (.int 3)] :: oO3 b x0 x1 x2 :: oD eA [(.int 0), (.int lA), (.int hA)] :: oV x0 [.null, .null, (.ref eA), (.int iA), .null] :: oI b171 [lA, 0, 0] :: oK b169 [(msk (bt lA hA)), 0, 0] :: oI b167 [0, 0, 0] :: oI b165 [0, 0, 0] :: oI b163 [iA, 0, 0] :: oY a [(.ref b163), (.ref b165), (.ref b167), (.ref b169), (.ref b171), (.int 0)] :: oV x2 [.null, .null, (.ref eC), (.int iC), .null] :: oD eC [(.int 0), (.int lC), (.int hC)] :: F) := (V196_.bring 12 rfl)
  obtain ⟨cq197, kq197, q197a, q197b, q197c⟩ := isOf hZ e196 (V197_.exa 0 rfl)
  obtain ⟨_, _, ⟨T197, L197, k197, n197⟩, -, X197, ⟨Lc197, hQ197, l197, y197, z197⟩, st197⟩ := X196.virtualBack hx (y := (⟨"com/example/inya/inya/Domain", "size", "()J"⟩ : MethodName)) (z := (⟨"com/example/inya/inya/Domain", "size", "()J"⟩ : MethodName)) hown (mvT hZ (ow hw 160 rfl)) (mvT hZ (ow hw 161 rfl)) (notFace_of_selects (args := #[]) (mvT hZ (ow hw 163 rfl))) (mvT hZ (ow hw 163 rfl)) (mvT hZ (ow hw 162 rfl)) (by decide) (backOf (W := 0) (rm_dsz l Z a0 hw [] eB lB hB h192 n0 _ Z192  V197_) hZ (ow hw 164 rfl) (ow hw 40 rfl) (by decide) (by decide)) q197a q197c (g := (mkF m 78 #[rv a, rv ls, iv 3, iv 0, .val (.int ((0 : Int32) + (bt lA hA))), iv 1, rv x1, .val (.long (((hA.toInt64) - (lA.toInt64)) + (1 : Int64))), sv, iv (bt lA hA)] [(.ref eB)])) rfl (by rw [hml]; rfl) (Steps.refl _) (argsL := []) (rest := []) (lenOf pd_23 rfl) rfl (by show 2 * 0 + _ ≤ _; exact Nat.le_of_eq rfl) (hb hby d77m1_78) (fun _ _ => ⟨rfl, e196, nb rfl, nb rfl⟩)
  dsimp only [Pt.U, Pt.locs, Pt.cells, Pt.slots] at X197 l197 y197 z197 st197 hQ197
  rw [l197, y197, z197] at X197
  obtain ⟨rfl, rfl, e197⟩ := hQ197
  have N197 := Fr.app N196 (Fr.nil n0)
  refine OGets.after st197 ?_
  refine og (fun _ => XS.lstore X197.here hx rfl (hb hby d77m1_81) rfl (l' := #[rv a, rv ls, iv 3, iv 0, .val (.int ((0 : Int32) + (bt lA hA))), iv 1, rv x1, .val (.long (((hB.toInt64) - (lB.toInt64)) + (1 : Int64))), sv, iv (bt lA hA)]) rfl) ?_
  refine og (fun _ => XS.bipush X197.here hx rfl (hb hby d77m1_83)) ?_
  refine og (fun _ => XS.lload X197.here hx rfl (hb hby d77m1_85) rfl) ?_
  refine og (fun _ => XS.lconst X197.here hx rfl (hb hby d77m1_87)) ?_
  refine og (fun _ => XS.lsub X197.here hx rfl (hb hby d77m1_88) rfl) ?_
  show OGets p e below _ (T197.setTop (mkF m 89 #[rv a, rv ls, iv 3, iv 0, .val (.int ((0 : Int32) + (bt lA hA))), iv 1, rv x1, .val (.long (((hB.toInt64) - (lB.toInt64)) + (1 : Int64))), sv, iv (bt lA hA)] [(.long ((((hB.toInt64) - (lB.toInt64)) + (1 : Int64)) - (1 : Int64))), (.int 64)]))
  obtain ⟨_, _, ⟨T198, L198, k198, n198⟩, -, X198, ⟨Lc198, hQ198, l198, y198, z198⟩, st198⟩ := Jvm.LawKit.callS X197 hx (y := (⟨"java/lang/Long", "numberOfLeadingZeros", "(J)I"⟩ : MethodName)) hown (mvT hZ (ow hw 165 rfl)) (mvT hZ (ow hw 166 rfl)) (mvT hZ (ow hw 167 rfl)) (mvT hZ (ow hw 168 rfl)) (by decide) (backOf (W := 1) (rm_nl l Z a0 hw [] ((((hB.toInt64) - (lB.toInt64)) + (1 : Int64)) - (1 : Int64)) h192 n0  Z192 ) hZ (ow hw 168 rfl) (ow hw 167 rfl) (by decide) (by decide)) (g := (mkF m 89 #[rv a, rv ls, iv 3, iv 0, .val (.int ((0 : Int32) + (bt lA hA))), iv 1, rv x1, .val (.long (((hB.toInt64) - (lB.toInt64)) + (1 : Int64))), sv, iv (bt lA hA)] [(.long ((((hB.toInt64) - (lB.toInt64)) + (1 : Int64)) - (1 : Int64))), (.int 64)])) rfl (by rw [hml]; rfl) (argsL := [(.long ((((hB.toInt64) - (lB.toInt64)) + (1 : Int64)) - (1 : Int64)))]) (rest := [(.int 64)]) (lenOf pd_24 rfl) rfl (by show 2 * 0 + _ ≤ _; exact Nat.le_of_eq rfl) (hb hby d77m1_89) (fun _ _ => ⟨rfl, e197, nb rfl, nb rfl⟩)
  dsimp only [Pt.U, Pt.locs, Pt.cells, Pt.slots] at X198 l198 y198 z198 st198 hQ198
  rw [l198, y198, z198] at X198
  obtain ⟨rfl, rfl, e198⟩ := hQ198
  have N198 := Fr.app N197 (Fr.nil n0)
  refine og st198 ?_
  refine og (fun _ => XS.isub X198.here hx rfl (hb hby d77m1_92) rfl) ?_
  show OGets p e below _ (T198.setTop (mkF m 93 #[rv a, rv ls, iv 3, iv 0, .val (.int ((0 : Int32) + (bt lA hA))), iv 1, rv x1, .val (.long (((hB.toInt64) - (lB.toInt64)) + (1 : Int64))), sv, iv (bt lA hA)] [(.int (bt lB hB))]))
  refine og (fun _ => XS.istore X198.here hx rfl (hb hby d77m1_93) rfl (l' := #[rv a, rv ls, iv 3, iv 0, .val (.int ((0 : Int32) + (bt lA hA))), iv 1, rv x1, .val (.long (((hB.toInt64) - (lB.toInt64)) + (1 : Int64))), sv, iv (bt lB hB)]) rfl) ?_
  refine og (fun _ => XS.iload X198.here hx rfl (hb hby d77m1_95) rfl) ?_
  refine og (fun _ => XS.iload X198.here hx rfl (hb hby d77m1_97) rfl) ?_
  refine og (fun _ => XS.iadd X198.here hx rfl (hb hby d77m1_99) rfl) ?_
  refine og (fun _ => XS.bipush X198.here hx rfl (hb hby d77m1_100)) ?_
  refine og (fun _ => XS.icmpYes X198.here hx rfl (pc0 := 102) (pc' := 111) rfl (hb hby d77m1_102) rfl (flt (hb1 : ¬ ((64 : Int32) < (((0 : Int32) + (bt lA hA)) + (bt lB hB))))).2.2.2 (by decide) (by decide)) ?_
  show OGets p e below _ (T198.setTop (mkF m 111 #[rv a, rv ls, iv 3, iv 0, .val (.int ((0 : Int32) + (bt lA hA))), iv 1, rv x1, .val (.long (((hB.toInt64) - (lB.toInt64)) + (1 : Int64))), sv, iv (bt lB hB)] []))
  refine og (fun _ => XS.aloadN X198.here hx rfl (hb hby d77m1_111) rfl rfl) ?_
  obtain ⟨T200, X200, e200, st200⟩ := getF X198 hx hZ hown (host := "") (Or.inl (ow hw 121 rfl)) Via.refl e198 (V197_.fld 11 rfl 0 rfl rfl) (g := (mkF m 112 #[rv a, rv ls, iv 3, iv 0, .val (.int ((0 : Int32) + (bt lA hA))), iv 1, rv x1, .val (.long (((hB.toInt64) - (lB.toInt64)) + (1 : Int64))), sv, iv (bt lB hB)] [(.ref a)])) rfl rfl (hb hby d77m1_112)
  refine og st200 ?_
  refine og (fun _ => XS.iload X200.here hx rfl (hb hby d77m1_115) rfl) ?_
  refine og (fun _ => XS.aload X200.here hx rfl (hb hby d77m1_117) rfl rfl) ?_
  have V201_ : OView Z _ h192 (oV x1 [.null, .null, (.ref eB), (.int iB), .null] :: oD eB [(.int 0), (.int lB), (.int hB)] :: oL ls [(.int 3), (.ref b), (.int 3)] :: oO3 b x0 x1 x2 :: oD eA [(.int 0), (.int lA), (.int hA)] :: oV x0 [.null, .null, (.ref eA), (.int iA), .null] :: oI b171 [lA, 0, 0] :: oK b169 [(msk (bt lA hA)), 0, 0] :: oI b167 [0, 0, 0] :: oI b165 [0, 0, 0] :: oI b163 [iA, 0, 0] :: oY a [(.ref b163), (.ref b165), (.ref b167), (.ref b169), (.ref b171), (.int 0)] :: oV x2 [.null, .null, (.ref eC), (.int iC), .null] :: oD eC [(.int 0), (.int lC), (.int hC)] :: F) := (V197_.bring 1 rfl)
  obtain ⟨cq201, kq201, q201a, q201b, q201c⟩ := isOf hZ e200 (V201_.exa 0 rfl)
  obtain ⟨_, _, ⟨T201, L201, k201, n201⟩, -, X201, ⟨Lc201, hQ201, l201, y201, z201⟩, st201⟩ := X200.virtualBack hx (y := (⟨"com/example/inya/inya/Variable", "index", "()I"⟩ : MethodName)) (z := (⟨"com/example/inya/inya/Variable", "index", "()I"⟩ : MethodName)) hown (mvT hZ (ow hw 174 rfl)) (mvT hZ (ow hw 175 rfl)) (notFace_of_selects (args := #[]) (mvT hZ (ow hw 177 rfl))) (mvT hZ (ow hw 177 rfl)) (mvT hZ (ow hw 176 rfl)) (by decide) (backOf (W := 2) (rm_vix l Z a0 hw [] x1 eB iB h192 n0 _ Z192  V201_) hZ (ow hw 178 rfl) (ow hw 37 rfl) (by decide) (by decide)) q201a q201c (g := (mkF m 119 #[rv a, rv ls, iv 3, iv 0, .val (.int ((0 : Int32) + (bt lA hA))), iv 1, rv x1, .val (.long (((hB.toInt64) - (lB.toInt64)) + (1 : Int64))), sv, iv (bt lB hB)] [(.ref x1), (.int 1), (.ref b163)])) rfl (by rw [hml]; rfl) (Steps.refl _) (argsL := []) (rest := [(.int 1), (.ref b163)]) (lenOf pd_21 rfl) rfl (by show 2 * 0 + _ ≤ _; exact Nat.le_of_eq rfl) (hb hby d77m1_119) (fun _ _ => ⟨rfl, e200, nb rfl, nb rfl⟩)
  dsimp only [Pt.U, Pt.locs, Pt.cells, Pt.slots] at X201 l201 y201 z201 st201 hQ201
  rw [l201, y201, z201] at X201
  obtain ⟨rfl, rfl, e201⟩ := hQ201
  have N201 := Fr.app N198 (Fr.nil n0)
  refine OGets.after st201 ?_
  obtain ⟨cl202, Ar202, S202⟩ := V201_.arr 10 rfl
  obtain ⟨T202, h202, X202, e202, W202', st202⟩ := stI X201 hx hZ e201 Ar202 (j := (1 : Int32)) (own_inb S202 1 (by decide) (nb rfl)) (g := (mkF m 122 #[rv a, rv ls, iv 3, iv 0, .val (.int ((0 : Int32) + (bt lA hA))), iv 1, rv x1, .val (.long (((hB.toInt64) - (lB.toInt64)) + (1 : Int64))), sv, iv (bt lB hB)] [(.int iB), (.int 1), (.ref b163)])) rfl rfl (hb hby d77m1_122)
  have W202 := own_wr (vs := []) 1 (by decide) W202'
  have V202 : OView Z n0 h202 (oV x1 [.null, .null, (.ref eB), (.int iB), .null] :: oD eB [(.int 0), (.int lB), (.int hB)] :: oL ls [(.int 3), (.ref b), (.int 3)] :: oO3 b x0 x1 x2 :: oD eA [(.int 0), (.int lA), (.int hA)] :: oV x0 [.null, .null, (.ref eA), (.int iA), .null] :: oI b171 [lA, 0, 0] :: oK b169 [(msk (bt lA hA)), 0, 0] :: oI b167 [0, 0, 0] :: oI b165 [0, 0, 0] :: oI b163 [iA, iB, 0] :: oY a [(.ref b163), (.ref b165), (.ref b167), (.ref b169), (.ref b171), (.int 0)] :: oV x2 [.null, .null, (.ref eC), (.int iC), .null] :: oD eC [(.int 0), (.int lC), (.int hC)] :: F) := V201_.putA 10 rfl W202
  have N202 := Fr.snoc X202 N201 (V201_.old 10 rfl)
  have Z202 : n0 ≤ h202.size := by rw [W202.size]; exact Z192
  refine og st202 ?_
  refine og (fun _ => XS.aloadN X202.here hx rfl (hb hby d77m1_123) rfl rfl) ?_
  obtain ⟨T203, X203, e203, st203⟩ := getF X202 hx hZ hown (host := "") (Or.inl (ow hw 123 rfl)) Via.refl e202 (V202.fld 11 rfl 1 rfl rfl) (g := (mkF m 124 #[rv a, rv ls, iv 3, iv 0, .val (.int ((0 : Int32) + (bt lA hA))), iv 1, rv x1, .val (.long (((hB.toInt64) - (lB.toInt64)) + (1 : Int64))), sv, iv (bt lB hB)] [(.ref a)])) rfl rfl (hb hby d77m1_124)
  refine og st203 ?_
  refine og (fun _ => XS.iload X203.here hx rfl (hb hby d77m1_127) rfl) ?_
  refine og (fun _ => XS.iloadN X203.here hx rfl (hb hby d77m1_129) rfl) ?_
  obtain ⟨cl204, Ar204, S204⟩ := V202.arr 9 rfl
  obtain ⟨T204, h204, X204, e204, W204', st204⟩ := stI X203 hx hZ e203 Ar204 (j := (1 : Int32)) (own_inb S204 1 (by decide) (nb rfl)) (g := (mkF m 130 #[rv a, rv ls, iv 3, iv 0, .val (.int ((0 : Int32) + (bt lA hA))), iv 1, rv x1, .val (.long (((hB.toInt64) - (lB.toInt64)) + (1 : Int64))), sv, iv (bt lB hB)] [(.int 0), (.int 1), (.ref b165)])) rfl rfl (hb hby d77m1_130)
  have W204 := own_wr (vs := []) 1 (by decide) W204'
  have V204 : OView Z n0 h204 (oV x1 [.null, .null, (.ref eB), (.int iB), .null] :: oD eB [(.int 0), (.int lB), (.int hB)] :: oL ls [(.int 3), (.ref b), (.int 3)] :: oO3 b x0 x1 x2 :: oD eA [(.int 0), (.int lA), (.int hA)] :: oV x0 [.null, .null, (.ref eA), (.int iA), .null] :: oI b171 [lA, 0, 0] :: oK b169 [(msk (bt lA hA)), 0, 0] :: oI b167 [0, 0, 0] :: oI b165 [0, 0, 0] :: oI b163 [iA, iB, 0] :: oY a [(.ref b163), (.ref b165), (.ref b167), (.ref b169), (.ref b171), (.int 0)] :: oV x2 [.null, .null, (.ref eC), (.int iC), .null] :: oD eC [(.int 0), (.int lC), (.int hC)] :: F) := V202.putA 9 rfl W204
  have N204 := Fr.snoc X204 N202 (V202.old 9 rfl)
  have Z204 : n0 ≤ h204.size := by rw [W204.size]; exact Z202
  refine og st204 ?_
  refine og (fun _ => XS.aloadN X204.here hx rfl (hb hby d77m1_131) rfl rfl) ?_
  obtain ⟨T205, X205, e205, st205⟩ := getF X204 hx hZ hown (host := "") (Or.inl (ow hw 125 rfl)) Via.refl e204 (V204.fld 11 rfl 2 rfl rfl) (g := (mkF m 132 #[rv a, rv ls, iv 3, iv 0, .val (.int ((0 : Int32) + (bt lA hA))), iv 1, rv x1, .val (.long (((hB.toInt64) - (lB.toInt64)) + (1 : Int64))), sv, iv (bt lB hB)] [(.ref a)])) rfl rfl (hb hby d77m1_132)
  refine og st205 ?_
  refine og (fun _ => XS.iload X205.here hx rfl (hb hby d77m1_135) rfl) ?_
  refine og (fun _ => XS.iload X205.here hx rfl (hb hby d77m1_137) rfl) ?_
  obtain ⟨cl206, Ar206, S206⟩ := V204.arr 8 rfl
  obtain ⟨T206, h206, X206, e206, W206', st206⟩ := stI X205 hx hZ e205 Ar206 (j := (1 : Int32)) (own_inb S206 1 (by decide) (nb rfl)) (g := (mkF m 139 #[rv a, rv ls, iv 3, iv 0, .val (.int ((0 : Int32) + (bt lA hA))), iv 1, rv x1, .val (.long (((hB.toInt64) - (lB.toInt64)) + (1 : Int64))), sv, iv (bt lB hB)] [(.int ((0 : Int32) + (bt lA hA))), (.int 1), (.ref b167)])) rfl rfl (hb hby d77m1_139)
  have W206 := own_wr (vs := []) 1 (by decide) W206'
  have V206 : OView Z n0 h206 (oV x1 [.null, .null, (.ref eB), (.int iB), .null] :: oD eB [(.int 0), (.int lB), (.int hB)] :: oL ls [(.int 3), (.ref b), (.int 3)] :: oO3 b x0 x1 x2 :: oD eA [(.int 0), (.int lA), (.int hA)] :: oV x0 [.null, .null, (.ref eA), (.int iA), .null] :: oI b171 [lA, 0, 0] :: oK b169 [(msk (bt lA hA)), 0, 0] :: oI b167 [0, ((0 : Int32) + (bt lA hA)), 0] :: oI b165 [0, 0, 0] :: oI b163 [iA, iB, 0] :: oY a [(.ref b163), (.ref b165), (.ref b167), (.ref b169), (.ref b171), (.int 0)] :: oV x2 [.null, .null, (.ref eC), (.int iC), .null] :: oD eC [(.int 0), (.int lC), (.int hC)] :: F) := V204.putA 8 rfl W206
  have N206 := Fr.snoc X206 N204 (V204.old 8 rfl)
  have Z206 : n0 ≤ h206.size := by rw [W206.size]; exact Z204
  refine og st206 ?_
  refine og (fun _ => XS.aloadN X206.here hx rfl (hb hby d77m1_140) rfl rfl) ?_
  obtain ⟨T207, X207, e207, st207⟩ := getF X206 hx hZ hown (host := "") (Or.inl (ow hw 128 rfl)) Via.refl e206 (V206.fld 11 rfl 3 rfl rfl) (g := (mkF m 141 #[rv a, rv ls, iv 3, iv 0, .val (.int ((0 : Int32) + (bt lA hA))), iv 1, rv x1, .val (.long (((hB.toInt64) - (lB.toInt64)) + (1 : Int64))), sv, iv (bt lB hB)] [(.ref a)])) rfl rfl (hb hby d77m1_141)
  refine og st207 ?_
  refine og (fun _ => XS.iload X207.here hx rfl (hb hby d77m1_144) rfl) ?_
  refine og (fun _ => XS.lconst X207.here hx rfl (hb hby d77m1_146)) ?_
  refine og (fun _ => XS.iload X207.here hx rfl (hb hby d77m1_147) rfl) ?_
  refine og (fun _ => XS.lshl X207.here hx rfl (hb hby d77m1_149) rfl) ?_
  refine og (fun _ => XS.lconst X207.here hx rfl (hb hby d77m1_150)) ?_
  show OGets p e below _ (T207.setTop (mkF m 151 #[rv a, rv ls, iv 3, iv 0, .val (.int ((0 : Int32) + (bt lA hA))), iv 1, rv x1, .val (.long (((hB.toInt64) - (lB.toInt64)) + (1 : Int64))), sv, iv (bt lB hB)] [(.long (1 : Int64)), (.long ((1 : Int64) <<< ((bt lB hB) &&& 0x3f).toInt64)), (.int 1), (.ref b169)]))
  refine og (fun _ => XS.lsub X207.here hx rfl (hb hby d77m1_151) rfl) ?_
  show OGets p e below _ (T207.setTop (mkF m 152 #[rv a, rv ls, iv 3, iv 0, .val (.int ((0 : Int32) + (bt lA hA))), iv 1, rv x1, .val (.long (((hB.toInt64) - (lB.toInt64)) + (1 : Int64))), sv, iv (bt lB hB)] [(.long (msk (bt lB hB))), (.int 1), (.ref b169)]))
  obtain ⟨cl208, Ar208, S208⟩ := V206.arr 7 rfl
  obtain ⟨T208, h208, X208, e208, W208', st208⟩ := stJ X207 hx hZ e207 Ar208 (j := (1 : Int32)) (own_inb S208 1 (by decide) (nb rfl)) (g := (mkF m 152 #[rv a, rv ls, iv 3, iv 0, .val (.int ((0 : Int32) + (bt lA hA))), iv 1, rv x1, .val (.long (((hB.toInt64) - (lB.toInt64)) + (1 : Int64))), sv, iv (bt lB hB)] [(.long (msk (bt lB hB))), (.int 1), (.ref b169)])) rfl rfl (hb hby d77m1_152)
  have W208 := own_wr (vs := []) 1 (by decide) W208'
  have V208 : OView Z n0 h208 (oV x1 [.null, .null, (.ref eB), (.int iB), .null] :: oD eB [(.int 0), (.int lB), (.int hB)] :: oL ls [(.int 3), (.ref b), (.int 3)] :: oO3 b x0 x1 x2 :: oD eA [(.int 0), (.int lA), (.int hA)] :: oV x0 [.null, .null, (.ref eA), (.int iA), .null] :: oI b171 [lA, 0, 0] :: oK b169 [(msk (bt lA hA)), (msk (bt lB hB)), 0] :: oI b167 [0, ((0 : Int32) + (bt lA hA)), 0] :: oI b165 [0, 0, 0] :: oI b163 [iA, iB, 0] :: oY a [(.ref b163), (.ref b165), (.ref b167), (.ref b169), (.ref b171), (.int 0)] :: oV x2 [.null, .null, (.ref eC), (.int iC), .null] :: oD eC [(.int 0), (.int lC), (.int hC)] :: F) := V206.putA 7 rfl W208
  have N208 := Fr.snoc X208 N206 (V206.old 7 rfl)
  have Z208 : n0 ≤ h208.size := by rw [W208.size]; exact Z206
  refine og st208 ?_
  refine og (fun _ => XS.aloadN X208.here hx rfl (hb hby d77m1_153) rfl rfl) ?_
  obtain ⟨T209, X209, e209, st209⟩ := getF X208 hx hZ hown (host := "") (Or.inl (ow hw 130 rfl)) Via.refl e208 (V208.fld 11 rfl 4 rfl rfl) (g := (mkF m 154 #[rv a, rv ls, iv 3, iv 0, .val (.int ((0 : Int32) + (bt lA hA))), iv 1, rv x1, .val (.long (((hB.toInt64) - (lB.toInt64)) + (1 : Int64))), sv, iv (bt lB hB)] [(.ref a)])) rfl rfl (hb hby d77m1_154)
  refine og st209 ?_
  refine og (fun _ => XS.iload X209.here hx rfl (hb hby d77m1_157) rfl) ?_
  refine og (fun _ => XS.aload X209.here hx rfl (hb hby d77m1_159) rfl rfl) ?_
  obtain ⟨cq210, kq210, q210a, q210b, q210c⟩ := isOf hZ e209 (V208.exa 0 rfl)
  obtain ⟨_, _, ⟨T210, L210, k210, n210⟩, -, X210, ⟨Lc210, hQ210, l210, y210, z210⟩, st210⟩ := X209.virtualBack hx (y := (⟨"com/example/inya/inya/Variable", "domain", "()Lcom/example/inya/inya/Domain;"⟩ : MethodName)) (z := (⟨"com/example/inya/inya/Variable", "domain", "()Lcom/example/inya/inya/Domain;"⟩ : MethodName)) hown (mvT hZ (ow hw 155 rfl)) (mvT hZ (ow hw 156 rfl)) (notFace_of_selects (args := #[]) (mvT hZ (ow hw 158 rfl))) (mvT hZ (ow hw 158 rfl)) (mvT hZ (ow hw 157 rfl)) (by decide) (backOf (W := 2) (rm_vdo l Z a0 hw [] x1 eB iB h208 n0 _ Z208  V208) hZ (ow hw 159 rfl) (ow hw 37 rfl) (by decide) (by decide)) q210a q210c (g := (mkF m 161 #[rv a, rv ls, iv 3, iv 0, .val (.int ((0 : Int32) + (bt lA hA))), iv 1, rv x1, .val (.long (((hB.toInt64) - (lB.toInt64)) + (1 : Int64))), sv, iv (bt lB hB)] [(.ref x1), (.int 1), (.ref b171)])) rfl (by rw [hml]; rfl) (Steps.refl _) (argsL := []) (rest := [(.int 1), (.ref b171)]) (lenOf pd_22 rfl) rfl (by show 2 * 0 + _ ≤ _; exact Nat.le_of_eq rfl) (hb hby d77m1_161) (fun _ _ => ⟨rfl, e209, nb rfl, nb rfl⟩)
  dsimp only [Pt.U, Pt.locs, Pt.cells, Pt.slots] at X210 l210 y210 z210 st210 hQ210
  rw [l210, y210, z210] at X210
  obtain ⟨rfl, rfl, e210⟩ := hQ210
  have N210 := Fr.app N208 (Fr.nil n0)
  refine OGets.after st210 ?_
  have V211_ : OView Z _ h208 (oD eB [(.int 0), (.int lB), (.int hB)] :: oV x1 [.null, .null, (.ref eB), (.int iB), .null] :: oL ls [(.int 3), (.ref b), (.int 3)] :: oO3 b x0 x1 x2 :: oD eA [(.int 0), (.int lA), (.int hA)] :: oV x0 [.null, .null, (.ref eA), (.int iA), .null] :: oI b171 [lA, 0, 0] :: oK b169 [(msk (bt lA hA)), (msk (bt lB hB)), 0] :: oI b167 [0, ((0 : Int32) + (bt lA hA)), 0] :: oI b165 [0, 0, 0] :: oI b163 [iA, iB, 0] :: oY a [(.ref b163), (.ref b165), (.ref b167), (.ref b169), (.ref b171), (.int 0)] :: oV x2 [.null, .null, (.ref eC), (.int iC), .null] :: oD eC [(.int 0), (.int lC), (.int hC)] :: F) := (V208.bring 1 rfl)
  obtain ⟨cq211, kq211, q211a, q211b, q211c⟩ := isOf hZ e210 (V211_.exa 0 rfl)
  obtain ⟨_, _, ⟨T211, L211, k211, n211⟩, -, X211, ⟨Lc211, hQ211, l211, y211, z211⟩, st211⟩ := X210.virtualBack hx (y := (⟨"com/example/inya/inya/Domain", "lo", "()I"⟩ : MethodName)) (z := (⟨"com/example/inya/inya/Domain", "lo", "()I"⟩ : MethodName)) hown (mvT hZ (ow hw 179 rfl)) (mvT hZ (ow hw 180 rfl)) (notFace_of_selects (args := #[]) (mvT hZ (ow hw 182 rfl))) (mvT hZ (ow hw 182 rfl)) (mvT hZ (ow hw 181 rfl)) (by decide) (backOf (W := 2) (rm_dlo l Z a0 hw [] eB lB hB h208 n0 _ Z208  V211_) hZ (ow hw 183 rfl) (ow hw 40 rfl) (by decide) (by decide)) q211a q211c (g := (mkF m 164 #[rv a, rv ls, iv 3, iv 0, .val (.int ((0 : Int32) + (bt lA hA))), iv 1, rv x1, .val (.long (((hB.toInt64) - (lB.toInt64)) + (1 : Int64))), sv, iv (bt lB hB)] [(.ref eB), (.int 1), (.ref b171)])) rfl (by rw [hml]; rfl) (Steps.refl _) (argsL := []) (rest := [(.int 1), (.ref b171)]) (lenOf pd_21 rfl) rfl (by show 2 * 0 + _ ≤ _; exact Nat.le_of_eq rfl) (hb hby d77m1_164) (fun _ _ => ⟨rfl, e210, nb rfl, nb rfl⟩)
  dsimp only [Pt.U, Pt.locs, Pt.cells, Pt.slots] at X211 l211 y211 z211 st211 hQ211
  rw [l211, y211, z211] at X211
  obtain ⟨rfl, rfl, e211⟩ := hQ211
  have N211 := Fr.app N210 (Fr.nil n0)
  refine OGets.after st211 ?_
  obtain ⟨cl212, Ar212, S212⟩ := V211_.arr 6 rfl
  obtain ⟨T212, h212, X212, e212, W212', st212⟩ := stI X211 hx hZ e211 Ar212 (j := (1 : Int32)) (own_inb S212 1 (by decide) (nb rfl)) (g := (mkF m 167 #[rv a, rv ls, iv 3, iv 0, .val (.int ((0 : Int32) + (bt lA hA))), iv 1, rv x1, .val (.long (((hB.toInt64) - (lB.toInt64)) + (1 : Int64))), sv, iv (bt lB hB)] [(.int lB), (.int 1), (.ref b171)])) rfl rfl (hb hby d77m1_167)
  have W212 := own_wr (vs := []) 1 (by decide) W212'
  have V212 : OView Z n0 h212 (oD eB [(.int 0), (.int lB), (.int hB)] :: oV x1 [.null, .null, (.ref eB), (.int iB), .null] :: oL ls [(.int 3), (.ref b), (.int 3)] :: oO3 b x0 x1 x2 :: oD eA [(.int 0), (.int lA), (.int hA)] :: oV x0 [.null, .null, (.ref eA), (.int iA), .null] :: oI b171 [lA, lB, 0] :: oK b169 [(msk (bt lA hA)), (msk (bt lB hB)), 0] :: oI b167 [0, ((0 : Int32) + (bt lA hA)), 0] :: oI b165 [0, 0, 0] :: oI b163 [iA, iB, 0] :: oY a [(.ref b163), (.ref b165), (.ref b167), (.ref b169), (.ref b171), (.int 0)] :: oV x2 [.null, .null, (.ref eC), (.int iC), .null] :: oD eC [(.int 0), (.int lC), (.int hC)] :: F) := V211_.putA 6 rfl W212
  have N212 := Fr.snoc X212 N211 (V211_.old 6 rfl)
  have Z212 : n0 ≤ h212.size := by rw [W212.size]; exact Z208
  refine og st212 ?_
  refine og (fun _ => XS.iload X212.here hx rfl (hb hby d77m1_168) rfl) ?_
  refine og (fun _ => XS.iload X212.here hx rfl (hb hby d77m1_170) rfl) ?_
  refine og (fun _ => XS.iadd X212.here hx rfl (hb hby d77m1_172) rfl) ?_
  refine og (fun _ => XS.istore X212.here hx rfl (hb hby d77m1_173) rfl (l' := #[rv a, rv ls, iv 3, iv 0, .val (.int (((0 : Int32) + (bt lA hA)) + (bt lB hB))), iv 1, rv x1, .val (.long (((hB.toInt64) - (lB.toInt64)) + (1 : Int64))), sv, iv (bt lB hB)]) rfl) ?_
  refine og (fun _ => XS.iinc X212.here hx rfl (hb hby d77m1_175) rfl (l' := #[rv a, rv ls, iv 3, iv 0, .val (.int (((0 : Int32) + (bt lA hA)) + (bt lB hB))), iv 2, rv x1, .val (.long (((hB.toInt64) - (lB.toInt64)) + (1 : Int64))), sv, iv (bt lB hB)]) rfl) ?_
  show OGets p e below _ (T212.setTop (mkF m 178 #[rv a, rv ls, iv 3, iv 0, .val (.int (((0 : Int32) + (bt lA hA)) + (bt lB hB))), iv 2, rv x1, .val (.long (((hB.toInt64) - (lB.toInt64)) + (1 : Int64))), sv, iv (bt lB hB)] []))
  refine og (fun _ => XS.goto X212.here hx rfl (pc0 := 178) (pc' := 54) rfl (hb hby d77m1_178) (by decide) (by decide)) ?_
  refine og (fun _ => XS.iload X212.here hx rfl (hb hby d77m1_54) rfl) ?_
  refine og (fun _ => XS.iloadN X212.here hx rfl (hb hby d77m1_56) rfl) ?_
  refine og (fun _ => XS.icmpNo X212.here hx rfl (hb hby d77m1_57) rfl (tlt (by decide : (2 : Int32) < (3 : Int32))).2.1) ?_
  refine og (fun _ => XS.aloadN X212.here hx rfl (hb hby d77m1_60) rfl rfl) ?_
  refine og (fun _ => XS.iload X212.here hx rfl (hb hby d77m1_61) rfl) ?_
  show OGets p e below _ (T212.setTop (mkF m 63 #[rv a, rv ls, iv 3, iv 0, .val (.int (((0 : Int32) + (bt lA hA)) + (bt lB hB))), iv 2, rv x1, .val (.long (((hB.toInt64) - (lB.toInt64)) + (1 : Int64))), sv, iv (bt lB hB)] [(.int 2), (.ref ls)]))
  have V214_ : OView Z _ h212 (oL ls [(.int 3), (.ref b), (.int 3)] :: oO3 b x0 x1 x2 :: oD eB [(.int 0), (.int lB), (.int hB)] :: oV x1 [.null, .null, (.ref eB), (.int iB), .null] :: oD eA [(.int 0), (.int lA), (.int hA)] :: oV x0 [.null, .null, (.ref eA), (.int iA), .null] :: oI b171 [lA, lB, 0] :: oK b169 [(msk (bt lA hA)), (msk (bt lB hB)), 0] :: oI b167 [0, ((0 : Int32) + (bt lA hA)), 0] :: oI b165 [0, 0, 0] :: oI b163 [iA, iB, 0] :: oY a [(.ref b163), (.ref b165), (.ref b167), (.ref b169), (.ref b171), (.int 0)] :: oV x2 [.null, .null, (.ref eC), (.int iC), .null] :: oD eC [(.int 0), (.int lC), (.int hC)] :: F) := ((V212.bring 3 rfl).bring 3 rfl)
  obtain ⟨cq214, kq214, q214a, q214b, q214c⟩ := isOf hZ e212 (V214_.exa 0 rfl)
  obtain ⟨_, _, ⟨T214, L214, k214, n214⟩, -, X214, ⟨Lc214, hQ214, l214, y214, z214⟩, st214⟩ := X212.interfaceBack hx (xi := (⟨"java/util/List", "get", "(I)Ljava/lang/Object;"⟩ : MethodName)) (y := (⟨"java/util/ArrayList", "get", "(I)Ljava/lang/Object;"⟩ : MethodName)) hown (mvT hZ (ow hw 132 rfl)) (mvT hZ (ow hw 133 rfl)) (mvT hZ (ow hw 134 rfl)) (mvT hZ (ow hw 135 rfl)) (mvT hZ (ow hw 136 rfl)) (mvT hZ (ow hw 137 rfl)) (mvT hZ (ow hw 138 rfl)) (mvT hZ (ow hw 118 rfl)) (by decide) (backOf (W := 0) (rm_get2 l Z a0 hw [] ls b x0 x1 x2 h212 n0 _ Z212  V214_) hZ (ow hw 139 rfl) (ow hw 11 rfl) (by decide) (by decide)) q214a q214b q214c (g := (mkF m 63 #[rv a, rv ls, iv 3, iv 0, .val (.int (((0 : Int32) + (bt lA hA)) + (bt lB hB))), iv 2, rv x1, .val (.long (((hB.toInt64) - (lB.toInt64)) + (1 : Int64))), sv, iv (bt lB hB)] [(.int 2), (.ref ls)])) rfl (by rw [hml]; rfl) (Steps.refl _) (argsL := [(.int 2)]) (rest := []) (lenOf pd_19 rfl) rfl (by show 2 * 0 + _ ≤ _; exact Nat.le_of_eq rfl) (hb hby d77m1_63) (fun _ _ => ⟨rfl, e212, nb rfl, nb rfl⟩)
  dsimp only [Pt.U, Pt.locs, Pt.cells, Pt.slots] at X214 l214 y214 z214 st214 hQ214
  rw [l214, y214, z214] at X214
  obtain ⟨rfl, rfl, e214⟩ := hQ214
  have N214 := Fr.app N212 (Fr.nil n0)
  refine OGets.after st214 ?_
  obtain ⟨T215, X215, e215, st215⟩ := castY X214 hx hZ hown (ow hw 153 rfl) e214 (Ins.self (V214_.exa 12 rfl)) (g := (mkF m 68 #[rv a, rv ls, iv 3, iv 0, .val (.int (((0 : Int32) + (bt lA hA)) + (bt lB hB))), iv 2, rv x1, .val (.long (((hB.toInt64) - (lB.toInt64)) + (1 : Int64))), sv, iv (bt lB hB)] [(.ref x2)])) rfl rfl (hb hby d77m1_68)
  refine og st215 ?_
  refine og (fun _ => XS.astore X215.here hx rfl (hb hby d77m1_71) rfl rfl (l' := #[rv a, rv ls, iv 3, iv 0, .val (.int (((0 : Int32) + (bt lA hA)) + (bt lB hB))), iv 2, rv x2, .val (.long (((hB.toInt64) - (lB.toInt64)) + (1 : Int64))), sv, iv (bt lB hB)]) rfl) ?_
  refine og (fun _ => XS.aload X215.here hx rfl (hb hby d77m1_73) rfl rfl) ?_
  have V216_ : OView Z _ h212 (oV x2 [.null, .null, (.ref eC), (.int iC), .null] :: oL ls [(.int 3), (.ref b), (.int 3)] :: oO3 b x0 x1 x2 :: oD eB [(.int 0), (.int lB), (.int hB)] :: oV x1 [.null, .null, (.ref eB), (.int iB), .null] :: oD eA [(.int 0), (.int lA), (.int hA)] :: oV x0 [.null, .null, (.ref eA), (.int iA), .null] :: oI b171 [lA, lB, 0] :: oK b169 [(msk (bt lA hA)), (msk (bt lB hB)), 0] :: oI b167 [0, ((0 : Int32) + (bt lA hA)), 0] :: oI b165 [0, 0, 0] :: oI b163 [iA, iB, 0] :: oY a [(.ref b163), (.ref b165), (.ref b167), (.ref b169), (.ref b171), (.int 0)] :: oD eC [(.int 0), (.int lC), (.int hC)] :: F) := (V214_.bring 12 rfl)
  obtain ⟨cq216, kq216, q216a, q216b, q216c⟩ := isOf hZ e215 (V216_.exa 0 rfl)
  obtain ⟨_, _, ⟨T216, L216, k216, n216⟩, -, X216, ⟨Lc216, hQ216, l216, y216, z216⟩, st216⟩ := X215.virtualBack hx (y := (⟨"com/example/inya/inya/Variable", "domain", "()Lcom/example/inya/inya/Domain;"⟩ : MethodName)) (z := (⟨"com/example/inya/inya/Variable", "domain", "()Lcom/example/inya/inya/Domain;"⟩ : MethodName)) hown (mvT hZ (ow hw 155 rfl)) (mvT hZ (ow hw 156 rfl)) (notFace_of_selects (args := #[]) (mvT hZ (ow hw 158 rfl))) (mvT hZ (ow hw 158 rfl)) (mvT hZ (ow hw 157 rfl)) (by decide) (backOf (W := 0) (rm_vdo l Z a0 hw [] x2 eC iC h212 n0 _ Z212  V216_) hZ (ow hw 159 rfl) (ow hw 37 rfl) (by decide) (by decide)) q216a q216c (g := (mkF m 75 #[rv a, rv ls, iv 3, iv 0, .val (.int (((0 : Int32) + (bt lA hA)) + (bt lB hB))), iv 2, rv x2, .val (.long (((hB.toInt64) - (lB.toInt64)) + (1 : Int64))), sv, iv (bt lB hB)] [(.ref x2)])) rfl (by rw [hml]; rfl) (Steps.refl _) (argsL := []) (rest := []) (lenOf pd_22 rfl) rfl (by show 2 * 0 + _ ≤ _; exact Nat.le_of_eq rfl) (hb hby d77m1_75) (fun _ _ => ⟨rfl, e215, nb rfl, nb rfl⟩)
  dsimp only [Pt.U, Pt.locs, Pt.cells, Pt.slots] at X216 l216 y216 z216 st216 hQ216
  rw [l216, y216, z216] at X216
  obtain ⟨rfl, rfl, e216⟩ := hQ216
  have N216 := Fr.app N214 (Fr.nil n0)
  refine OGets.after st216 ?_
  have V217_ : OView Z _ h212 (oD eC [(.int 0), (.int lC), (.int hC)] :: oV x2 [.null, .null, (.ref eC), (.int iC), .null] :: oL ls [(.int 3), (.ref b), (.int 3)] :: oO3 b x0 x1 x2 :: oD eB [(.int 0), (.int lB), (.int hB)] :: oV x1 [.null, .null, (.ref eB), (.int iB), .null] :: oD eA [(.int 0), (.int lA), (.int hA)] :: oV x0 [.null, .null, (.ref eA), (.int iA), .null] :: oI b171 [lA, lB, 0] :: oK b169 [(msk (bt lA hA)), (msk (bt lB hB)), 0] :: oI b167 [0, ((0 : Int32) + (bt lA hA)), 0] :: oI b165 [0, 0, 0] :: oI b163 [iA, iB, 0] :: oY a [(.ref b163), (.ref b165), (.ref b167), (.ref b169), (.ref b171), (.int 0)] :: F) := (V216_.bring 13 rfl)
  obtain ⟨cq217, kq217, q217a, q217b, q217c⟩ := isOf hZ e216 (V217_.exa 0 rfl)
  obtain ⟨_, _, ⟨T217, L217, k217, n217⟩, -, X217, ⟨Lc217, hQ217, l217, y217, z217⟩, st217⟩ := X216.virtualBack hx (y := (⟨"com/example/inya/inya/Domain", "size", "()J"⟩ : MethodName)) (z := (⟨"com/example/inya/inya/Domain", "size", "()J"⟩ : MethodName)) hown (mvT hZ (ow hw 160 rfl)) (mvT hZ (ow hw 161 rfl)) (notFace_of_selects (args := #[]) (mvT hZ (ow hw 163 rfl))) (mvT hZ (ow hw 163 rfl)) (mvT hZ (ow hw 162 rfl)) (by decide) (backOf (W := 0) (rm_dsz l Z a0 hw [] eC lC hC h212 n0 _ Z212  V217_) hZ (ow hw 164 rfl) (ow hw 40 rfl) (by decide) (by decide)) q217a q217c (g := (mkF m 78 #[rv a, rv ls, iv 3, iv 0, .val (.int (((0 : Int32) + (bt lA hA)) + (bt lB hB))), iv 2, rv x2, .val (.long (((hB.toInt64) - (lB.toInt64)) + (1 : Int64))), sv, iv (bt lB hB)] [(.ref eC)])) rfl (by rw [hml]; rfl) (Steps.refl _) (argsL := []) (rest := []) (lenOf pd_23 rfl) rfl (by show 2 * 0 + _ ≤ _; exact Nat.le_of_eq rfl) (hb hby d77m1_78) (fun _ _ => ⟨rfl, e216, nb rfl, nb rfl⟩)
  dsimp only [Pt.U, Pt.locs, Pt.cells, Pt.slots] at X217 l217 y217 z217 st217 hQ217
  rw [l217, y217, z217] at X217
  obtain ⟨rfl, rfl, e217⟩ := hQ217
  have N217 := Fr.app N216 (Fr.nil n0)
  refine OGets.after st217 ?_
  refine og (fun _ => XS.lstore X217.here hx rfl (hb hby d77m1_81) rfl (l' := #[rv a, rv ls, iv 3, iv 0, .val (.int (((0 : Int32) + (bt lA hA)) + (bt lB hB))), iv 2, rv x2, .val (.long (((hC.toInt64) - (lC.toInt64)) + (1 : Int64))), sv, iv (bt lB hB)]) rfl) ?_
  refine og (fun _ => XS.bipush X217.here hx rfl (hb hby d77m1_83)) ?_
  refine og (fun _ => XS.lload X217.here hx rfl (hb hby d77m1_85) rfl) ?_
  refine og (fun _ => XS.lconst X217.here hx rfl (hb hby d77m1_87)) ?_
  refine og (fun _ => XS.lsub X217.here hx rfl (hb hby d77m1_88) rfl) ?_
  show OGets p e below _ (T217.setTop (mkF m 89 #[rv a, rv ls, iv 3, iv 0, .val (.int (((0 : Int32) + (bt lA hA)) + (bt lB hB))), iv 2, rv x2, .val (.long (((hC.toInt64) - (lC.toInt64)) + (1 : Int64))), sv, iv (bt lB hB)] [(.long ((((hC.toInt64) - (lC.toInt64)) + (1 : Int64)) - (1 : Int64))), (.int 64)]))
  obtain ⟨_, _, ⟨T218, L218, k218, n218⟩, -, X218, ⟨Lc218, hQ218, l218, y218, z218⟩, st218⟩ := Jvm.LawKit.callS X217 hx (y := (⟨"java/lang/Long", "numberOfLeadingZeros", "(J)I"⟩ : MethodName)) hown (mvT hZ (ow hw 165 rfl)) (mvT hZ (ow hw 166 rfl)) (mvT hZ (ow hw 167 rfl)) (mvT hZ (ow hw 168 rfl)) (by decide) (backOf (W := 1) (rm_nl l Z a0 hw [] ((((hC.toInt64) - (lC.toInt64)) + (1 : Int64)) - (1 : Int64)) h212 n0  Z212 ) hZ (ow hw 168 rfl) (ow hw 167 rfl) (by decide) (by decide)) (g := (mkF m 89 #[rv a, rv ls, iv 3, iv 0, .val (.int (((0 : Int32) + (bt lA hA)) + (bt lB hB))), iv 2, rv x2, .val (.long (((hC.toInt64) - (lC.toInt64)) + (1 : Int64))), sv, iv (bt lB hB)] [(.long ((((hC.toInt64) - (lC.toInt64)) + (1 : Int64)) - (1 : Int64))), (.int 64)])) rfl (by rw [hml]; rfl) (argsL := [(.long ((((hC.toInt64) - (lC.toInt64)) + (1 : Int64)) - (1 : Int64)))]) (rest := [(.int 64)]) (lenOf pd_24 rfl) rfl (by show 2 * 0 + _ ≤ _; exact Nat.le_of_eq rfl) (hb hby d77m1_89) (fun _ _ => ⟨rfl, e217, nb rfl, nb rfl⟩)
  dsimp only [Pt.U, Pt.locs, Pt.cells, Pt.slots] at X218 l218 y218 z218 st218 hQ218
  rw [l218, y218, z218] at X218
  obtain ⟨rfl, rfl, e218⟩ := hQ218
  have N218 := Fr.app N217 (Fr.nil n0)
  refine og st218 ?_
  refine og (fun _ => XS.isub X218.here hx rfl (hb hby d77m1_92) rfl) ?_
  show OGets p e below _ (T218.setTop (mkF m 93 #[rv a, rv ls, iv 3, iv 0, .val (.int (((0 : Int32) + (bt lA hA)) + (bt lB hB))), iv 2, rv x2, .val (.long (((hC.toInt64) - (lC.toInt64)) + (1 : Int64))), sv, iv (bt lB hB)] [(.int (bt lC hC))]))
  refine og (fun _ => XS.istore X218.here hx rfl (hb hby d77m1_93) rfl (l' := #[rv a, rv ls, iv 3, iv 0, .val (.int (((0 : Int32) + (bt lA hA)) + (bt lB hB))), iv 2, rv x2, .val (.long (((hC.toInt64) - (lC.toInt64)) + (1 : Int64))), sv, iv (bt lC hC)]) rfl) ?_
  refine og (fun _ => XS.iload X218.here hx rfl (hb hby d77m1_95) rfl) ?_
  refine og (fun _ => XS.iload X218.here hx rfl (hb hby d77m1_97) rfl) ?_
  refine og (fun _ => XS.iadd X218.here hx rfl (hb hby d77m1_99) rfl) ?_
  refine og (fun _ => XS.bipush X218.here hx rfl (hb hby d77m1_100)) ?_
  refine og (fun _ => XS.icmpYes X218.here hx rfl (pc0 := 102) (pc' := 111) rfl (hb hby d77m1_102) rfl (flt (hb2 : ¬ ((64 : Int32) < ((((0 : Int32) + (bt lA hA)) + (bt lB hB)) + (bt lC hC))))).2.2.2 (by decide) (by decide)) ?_
  show OGets p e below _ (T218.setTop (mkF m 111 #[rv a, rv ls, iv 3, iv 0, .val (.int (((0 : Int32) + (bt lA hA)) + (bt lB hB))), iv 2, rv x2, .val (.long (((hC.toInt64) - (lC.toInt64)) + (1 : Int64))), sv, iv (bt lC hC)] []))
  refine og (fun _ => XS.aloadN X218.here hx rfl (hb hby d77m1_111) rfl rfl) ?_
  obtain ⟨T220, X220, e220, st220⟩ := getF X218 hx hZ hown (host := "") (Or.inl (ow hw 121 rfl)) Via.refl e218 (V217_.fld 13 rfl 0 rfl rfl) (g := (mkF m 112 #[rv a, rv ls, iv 3, iv 0, .val (.int (((0 : Int32) + (bt lA hA)) + (bt lB hB))), iv 2, rv x2, .val (.long (((hC.toInt64) - (lC.toInt64)) + (1 : Int64))), sv, iv (bt lC hC)] [(.ref a)])) rfl rfl (hb hby d77m1_112)
  refine og st220 ?_
  refine og (fun _ => XS.iload X220.here hx rfl (hb hby d77m1_115) rfl) ?_
  refine og (fun _ => XS.aload X220.here hx rfl (hb hby d77m1_117) rfl rfl) ?_
  have V221_ : OView Z _ h212 (oV x2 [.null, .null, (.ref eC), (.int iC), .null] :: oD eC [(.int 0), (.int lC), (.int hC)] :: oL ls [(.int 3), (.ref b), (.int 3)] :: oO3 b x0 x1 x2 :: oD eB [(.int 0), (.int lB), (.int hB)] :: oV x1 [.null, .null, (.ref eB), (.int iB), .null] :: oD eA [(.int 0), (.int lA), (.int hA)] :: oV x0 [.null, .null, (.ref eA), (.int iA), .null] :: oI b171 [lA, lB, 0] :: oK b169 [(msk (bt lA hA)), (msk (bt lB hB)), 0] :: oI b167 [0, ((0 : Int32) + (bt lA hA)), 0] :: oI b165 [0, 0, 0] :: oI b163 [iA, iB, 0] :: oY a [(.ref b163), (.ref b165), (.ref b167), (.ref b169), (.ref b171), (.int 0)] :: F) := (V217_.bring 1 rfl)
  obtain ⟨cq221, kq221, q221a, q221b, q221c⟩ := isOf hZ e220 (V221_.exa 0 rfl)
  obtain ⟨_, _, ⟨T221, L221, k221, n221⟩, -, X221, ⟨Lc221, hQ221, l221, y221, z221⟩, st221⟩ := X220.virtualBack hx (y := (⟨"com/example/inya/inya/Variable", "index", "()I"⟩ : MethodName)) (z := (⟨"com/example/inya/inya/Variable", "index", "()I"⟩ : MethodName)) hown (mvT hZ (ow hw 174 rfl)) (mvT hZ (ow hw 175 rfl)) (notFace_of_selects (args := #[]) (mvT hZ (ow hw 177 rfl))) (mvT hZ (ow hw 177 rfl)) (mvT hZ (ow hw 176 rfl)) (by decide) (backOf (W := 2) (rm_vix l Z a0 hw [] x2 eC iC h212 n0 _ Z212  V221_) hZ (ow hw 178 rfl) (ow hw 37 rfl) (by decide) (by decide)) q221a q221c (g := (mkF m 119 #[rv a, rv ls, iv 3, iv 0, .val (.int (((0 : Int32) + (bt lA hA)) + (bt lB hB))), iv 2, rv x2, .val (.long (((hC.toInt64) - (lC.toInt64)) + (1 : Int64))), sv, iv (bt lC hC)] [(.ref x2), (.int 2), (.ref b163)])) rfl (by rw [hml]; rfl) (Steps.refl _) (argsL := []) (rest := [(.int 2), (.ref b163)]) (lenOf pd_21 rfl) rfl (by show 2 * 0 + _ ≤ _; exact Nat.le_of_eq rfl) (hb hby d77m1_119) (fun _ _ => ⟨rfl, e220, nb rfl, nb rfl⟩)
  dsimp only [Pt.U, Pt.locs, Pt.cells, Pt.slots] at X221 l221 y221 z221 st221 hQ221
  rw [l221, y221, z221] at X221
  obtain ⟨rfl, rfl, e221⟩ := hQ221
  have N221 := Fr.app N218 (Fr.nil n0)
  refine OGets.after st221 ?_
  obtain ⟨cl222, Ar222, S222⟩ := V221_.arr 12 rfl
  obtain ⟨T222, h222, X222, e222, W222', st222⟩ := stI X221 hx hZ e221 Ar222 (j := (2 : Int32)) (own_inb S222 2 (by decide) (nb rfl)) (g := (mkF m 122 #[rv a, rv ls, iv 3, iv 0, .val (.int (((0 : Int32) + (bt lA hA)) + (bt lB hB))), iv 2, rv x2, .val (.long (((hC.toInt64) - (lC.toInt64)) + (1 : Int64))), sv, iv (bt lC hC)] [(.int iC), (.int 2), (.ref b163)])) rfl rfl (hb hby d77m1_122)
  have W222 := own_wr (vs := []) 2 (by decide) W222'
  have V222 : OView Z n0 h222 (oV x2 [.null, .null, (.ref eC), (.int iC), .null] :: oD eC [(.int 0), (.int lC), (.int hC)] :: oL ls [(.int 3), (.ref b), (.int 3)] :: oO3 b x0 x1 x2 :: oD eB [(.int 0), (.int lB), (.int hB)] :: oV x1 [.null, .null, (.ref eB), (.int iB), .null] :: oD eA [(.int 0), (.int lA), (.int hA)] :: oV x0 [.null, .null, (.ref eA), (.int iA), .null] :: oI b171 [lA, lB, 0] :: oK b169 [(msk (bt lA hA)), (msk (bt lB hB)), 0] :: oI b167 [0, ((0 : Int32) + (bt lA hA)), 0] :: oI b165 [0, 0, 0] :: oI b163 [iA, iB, iC] :: oY a [(.ref b163), (.ref b165), (.ref b167), (.ref b169), (.ref b171), (.int 0)] :: F) := V221_.putA 12 rfl W222
  have N222 := Fr.snoc X222 N221 (V221_.old 12 rfl)
  have Z222 : n0 ≤ h222.size := by rw [W222.size]; exact Z212
  refine og st222 ?_
  refine og (fun _ => XS.aloadN X222.here hx rfl (hb hby d77m1_123) rfl rfl) ?_
  obtain ⟨T223, X223, e223, st223⟩ := getF X222 hx hZ hown (host := "") (Or.inl (ow hw 123 rfl)) Via.refl e222 (V222.fld 13 rfl 1 rfl rfl) (g := (mkF m 124 #[rv a, rv ls, iv 3, iv 0, .val (.int (((0 : Int32) + (bt lA hA)) + (bt lB hB))), iv 2, rv x2, .val (.long (((hC.toInt64) - (lC.toInt64)) + (1 : Int64))), sv, iv (bt lC hC)] [(.ref a)])) rfl rfl (hb hby d77m1_124)
  refine og st223 ?_
  refine og (fun _ => XS.iload X223.here hx rfl (hb hby d77m1_127) rfl) ?_
  refine og (fun _ => XS.iloadN X223.here hx rfl (hb hby d77m1_129) rfl) ?_
  obtain ⟨cl224, Ar224, S224⟩ := V222.arr 11 rfl
  obtain ⟨T224, h224, X224, e224, W224', st224⟩ := stI X223 hx hZ e223 Ar224 (j := (2 : Int32)) (own_inb S224 2 (by decide) (nb rfl)) (g := (mkF m 130 #[rv a, rv ls, iv 3, iv 0, .val (.int (((0 : Int32) + (bt lA hA)) + (bt lB hB))), iv 2, rv x2, .val (.long (((hC.toInt64) - (lC.toInt64)) + (1 : Int64))), sv, iv (bt lC hC)] [(.int 0), (.int 2), (.ref b165)])) rfl rfl (hb hby d77m1_130)
  have W224 := own_wr (vs := []) 2 (by decide) W224'
  have V224 : OView Z n0 h224 (oV x2 [.null, .null, (.ref eC), (.int iC), .null] :: oD eC [(.int 0), (.int lC), (.int hC)] :: oL ls [(.int 3), (.ref b), (.int 3)] :: oO3 b x0 x1 x2 :: oD eB [(.int 0), (.int lB), (.int hB)] :: oV x1 [.null, .null, (.ref eB), (.int iB), .null] :: oD eA [(.int 0), (.int lA), (.int hA)] :: oV x0 [.null, .null, (.ref eA), (.int iA), .null] :: oI b171 [lA, lB, 0] :: oK b169 [(msk (bt lA hA)), (msk (bt lB hB)), 0] :: oI b167 [0, ((0 : Int32) + (bt lA hA)), 0] :: oI b165 [0, 0, 0] :: oI b163 [iA, iB, iC] :: oY a [(.ref b163), (.ref b165), (.ref b167), (.ref b169), (.ref b171), (.int 0)] :: F) := V222.putA 11 rfl W224
  have N224 := Fr.snoc X224 N222 (V222.old 11 rfl)
  have Z224 : n0 ≤ h224.size := by rw [W224.size]; exact Z222
  refine og st224 ?_
  refine og (fun _ => XS.aloadN X224.here hx rfl (hb hby d77m1_131) rfl rfl) ?_
  obtain ⟨T225, X225, e225, st225⟩ := getF X224 hx hZ hown (host := "") (Or.inl (ow hw 125 rfl)) Via.refl e224 (V224.fld 13 rfl 2 rfl rfl) (g := (mkF m 132 #[rv a, rv ls, iv 3, iv 0, .val (.int (((0 : Int32) + (bt lA hA)) + (bt lB hB))), iv 2, rv x2, .val (.long (((hC.toInt64) - (lC.toInt64)) + (1 : Int64))), sv, iv (bt lC hC)] [(.ref a)])) rfl rfl (hb hby d77m1_132)
  refine og st225 ?_
  refine og (fun _ => XS.iload X225.here hx rfl (hb hby d77m1_135) rfl) ?_
  refine og (fun _ => XS.iload X225.here hx rfl (hb hby d77m1_137) rfl) ?_
  obtain ⟨cl226, Ar226, S226⟩ := V224.arr 10 rfl
  obtain ⟨T226, h226, X226, e226, W226', st226⟩ := stI X225 hx hZ e225 Ar226 (j := (2 : Int32)) (own_inb S226 2 (by decide) (nb rfl)) (g := (mkF m 139 #[rv a, rv ls, iv 3, iv 0, .val (.int (((0 : Int32) + (bt lA hA)) + (bt lB hB))), iv 2, rv x2, .val (.long (((hC.toInt64) - (lC.toInt64)) + (1 : Int64))), sv, iv (bt lC hC)] [(.int (((0 : Int32) + (bt lA hA)) + (bt lB hB))), (.int 2), (.ref b167)])) rfl rfl (hb hby d77m1_139)
  have W226 := own_wr (vs := []) 2 (by decide) W226'
  have V226 : OView Z n0 h226 (oV x2 [.null, .null, (.ref eC), (.int iC), .null] :: oD eC [(.int 0), (.int lC), (.int hC)] :: oL ls [(.int 3), (.ref b), (.int 3)] :: oO3 b x0 x1 x2 :: oD eB [(.int 0), (.int lB), (.int hB)] :: oV x1 [.null, .null, (.ref eB), (.int iB), .null] :: oD eA [(.int 0), (.int lA), (.int hA)] :: oV x0 [.null, .null, (.ref eA), (.int iA), .null] :: oI b171 [lA, lB, 0] :: oK b169 [(msk (bt lA hA)), (msk (bt lB hB)), 0] :: oI b167 [0, ((0 : Int32) + (bt lA hA)), (((0 : Int32) + (bt lA hA)) + (bt lB hB))] :: oI b165 [0, 0, 0] :: oI b163 [iA, iB, iC] :: oY a [(.ref b163), (.ref b165), (.ref b167), (.ref b169), (.ref b171), (.int 0)] :: F) := V224.putA 10 rfl W226
  have N226 := Fr.snoc X226 N224 (V224.old 10 rfl)
  have Z226 : n0 ≤ h226.size := by rw [W226.size]; exact Z224
  refine og st226 ?_
  refine og (fun _ => XS.aloadN X226.here hx rfl (hb hby d77m1_140) rfl rfl) ?_
  obtain ⟨T227, X227, e227, st227⟩ := getF X226 hx hZ hown (host := "") (Or.inl (ow hw 128 rfl)) Via.refl e226 (V226.fld 13 rfl 3 rfl rfl) (g := (mkF m 141 #[rv a, rv ls, iv 3, iv 0, .val (.int (((0 : Int32) + (bt lA hA)) + (bt lB hB))), iv 2, rv x2, .val (.long (((hC.toInt64) - (lC.toInt64)) + (1 : Int64))), sv, iv (bt lC hC)] [(.ref a)])) rfl rfl (hb hby d77m1_141)
  refine og st227 ?_
  refine og (fun _ => XS.iload X227.here hx rfl (hb hby d77m1_144) rfl) ?_
  refine og (fun _ => XS.lconst X227.here hx rfl (hb hby d77m1_146)) ?_
  refine og (fun _ => XS.iload X227.here hx rfl (hb hby d77m1_147) rfl) ?_
  refine og (fun _ => XS.lshl X227.here hx rfl (hb hby d77m1_149) rfl) ?_
  refine og (fun _ => XS.lconst X227.here hx rfl (hb hby d77m1_150)) ?_
  show OGets p e below _ (T227.setTop (mkF m 151 #[rv a, rv ls, iv 3, iv 0, .val (.int (((0 : Int32) + (bt lA hA)) + (bt lB hB))), iv 2, rv x2, .val (.long (((hC.toInt64) - (lC.toInt64)) + (1 : Int64))), sv, iv (bt lC hC)] [(.long (1 : Int64)), (.long ((1 : Int64) <<< ((bt lC hC) &&& 0x3f).toInt64)), (.int 2), (.ref b169)]))
  refine og (fun _ => XS.lsub X227.here hx rfl (hb hby d77m1_151) rfl) ?_
  show OGets p e below _ (T227.setTop (mkF m 152 #[rv a, rv ls, iv 3, iv 0, .val (.int (((0 : Int32) + (bt lA hA)) + (bt lB hB))), iv 2, rv x2, .val (.long (((hC.toInt64) - (lC.toInt64)) + (1 : Int64))), sv, iv (bt lC hC)] [(.long (msk (bt lC hC))), (.int 2), (.ref b169)]))
  obtain ⟨cl228, Ar228, S228⟩ := V226.arr 9 rfl
  obtain ⟨T228, h228, X228, e228, W228', st228⟩ := stJ X227 hx hZ e227 Ar228 (j := (2 : Int32)) (own_inb S228 2 (by decide) (nb rfl)) (g := (mkF m 152 #[rv a, rv ls, iv 3, iv 0, .val (.int (((0 : Int32) + (bt lA hA)) + (bt lB hB))), iv 2, rv x2, .val (.long (((hC.toInt64) - (lC.toInt64)) + (1 : Int64))), sv, iv (bt lC hC)] [(.long (msk (bt lC hC))), (.int 2), (.ref b169)])) rfl rfl (hb hby d77m1_152)
  have W228 := own_wr (vs := []) 2 (by decide) W228'
  have V228 : OView Z n0 h228 (oV x2 [.null, .null, (.ref eC), (.int iC), .null] :: oD eC [(.int 0), (.int lC), (.int hC)] :: oL ls [(.int 3), (.ref b), (.int 3)] :: oO3 b x0 x1 x2 :: oD eB [(.int 0), (.int lB), (.int hB)] :: oV x1 [.null, .null, (.ref eB), (.int iB), .null] :: oD eA [(.int 0), (.int lA), (.int hA)] :: oV x0 [.null, .null, (.ref eA), (.int iA), .null] :: oI b171 [lA, lB, 0] :: oK b169 [(msk (bt lA hA)), (msk (bt lB hB)), (msk (bt lC hC))] :: oI b167 [0, ((0 : Int32) + (bt lA hA)), (((0 : Int32) + (bt lA hA)) + (bt lB hB))] :: oI b165 [0, 0, 0] :: oI b163 [iA, iB, iC] :: oY a [(.ref b163), (.ref b165), (.ref b167), (.ref b169), (.ref b171), (.int 0)] :: F) := V226.putA 9 rfl W228
  have N228 := Fr.snoc X228 N226 (V226.old 9 rfl)
  have Z228 : n0 ≤ h228.size := by rw [W228.size]; exact Z226
  refine og st228 ?_
  refine og (fun _ => XS.aloadN X228.here hx rfl (hb hby d77m1_153) rfl rfl) ?_
  obtain ⟨T229, X229, e229, st229⟩ := getF X228 hx hZ hown (host := "") (Or.inl (ow hw 130 rfl)) Via.refl e228 (V228.fld 13 rfl 4 rfl rfl) (g := (mkF m 154 #[rv a, rv ls, iv 3, iv 0, .val (.int (((0 : Int32) + (bt lA hA)) + (bt lB hB))), iv 2, rv x2, .val (.long (((hC.toInt64) - (lC.toInt64)) + (1 : Int64))), sv, iv (bt lC hC)] [(.ref a)])) rfl rfl (hb hby d77m1_154)
  refine og st229 ?_
  refine og (fun _ => XS.iload X229.here hx rfl (hb hby d77m1_157) rfl) ?_
  refine og (fun _ => XS.aload X229.here hx rfl (hb hby d77m1_159) rfl rfl) ?_
  obtain ⟨cq230, kq230, q230a, q230b, q230c⟩ := isOf hZ e229 (V228.exa 0 rfl)
  obtain ⟨_, _, ⟨T230, L230, k230, n230⟩, -, X230, ⟨Lc230, hQ230, l230, y230, z230⟩, st230⟩ := X229.virtualBack hx (y := (⟨"com/example/inya/inya/Variable", "domain", "()Lcom/example/inya/inya/Domain;"⟩ : MethodName)) (z := (⟨"com/example/inya/inya/Variable", "domain", "()Lcom/example/inya/inya/Domain;"⟩ : MethodName)) hown (mvT hZ (ow hw 155 rfl)) (mvT hZ (ow hw 156 rfl)) (notFace_of_selects (args := #[]) (mvT hZ (ow hw 158 rfl))) (mvT hZ (ow hw 158 rfl)) (mvT hZ (ow hw 157 rfl)) (by decide) (backOf (W := 2) (rm_vdo l Z a0 hw [] x2 eC iC h228 n0 _ Z228  V228) hZ (ow hw 159 rfl) (ow hw 37 rfl) (by decide) (by decide)) q230a q230c (g := (mkF m 161 #[rv a, rv ls, iv 3, iv 0, .val (.int (((0 : Int32) + (bt lA hA)) + (bt lB hB))), iv 2, rv x2, .val (.long (((hC.toInt64) - (lC.toInt64)) + (1 : Int64))), sv, iv (bt lC hC)] [(.ref x2), (.int 2), (.ref b171)])) rfl (by rw [hml]; rfl) (Steps.refl _) (argsL := []) (rest := [(.int 2), (.ref b171)]) (lenOf pd_22 rfl) rfl (by show 2 * 0 + _ ≤ _; exact Nat.le_of_eq rfl) (hb hby d77m1_161) (fun _ _ => ⟨rfl, e229, nb rfl, nb rfl⟩)
  dsimp only [Pt.U, Pt.locs, Pt.cells, Pt.slots] at X230 l230 y230 z230 st230 hQ230
  rw [l230, y230, z230] at X230
  obtain ⟨rfl, rfl, e230⟩ := hQ230
  have N230 := Fr.app N228 (Fr.nil n0)
  refine OGets.after st230 ?_
  have V231_ : OView Z _ h228 (oD eC [(.int 0), (.int lC), (.int hC)] :: oV x2 [.null, .null, (.ref eC), (.int iC), .null] :: oL ls [(.int 3), (.ref b), (.int 3)] :: oO3 b x0 x1 x2 :: oD eB [(.int 0), (.int lB), (.int hB)] :: oV x1 [.null, .null, (.ref eB), (.int iB), .null] :: oD eA [(.int 0), (.int lA), (.int hA)] :: oV x0 [.null, .null, (.ref eA), (.int iA), .null] :: oI b171 [lA, lB, 0] :: oK b169 [(msk (bt lA hA)), (msk (bt lB hB)), (msk (bt lC hC))] :: oI b167 [0, ((0 : Int32) + (bt lA hA)), (((0 : Int32) + (bt lA hA)) + (bt lB hB))] :: oI b165 [0, 0, 0] :: oI b163 [iA, iB, iC] :: oY a [(.ref b163), (.ref b165), (.ref b167), (.ref b169), (.ref b171), (.int 0)] :: F) := (V228.bring 1 rfl)
  obtain ⟨cq231, kq231, q231a, q231b, q231c⟩ := isOf hZ e230 (V231_.exa 0 rfl)
  obtain ⟨_, _, ⟨T231, L231, k231, n231⟩, -, X231, ⟨Lc231, hQ231, l231, y231, z231⟩, st231⟩ := X230.virtualBack hx (y := (⟨"com/example/inya/inya/Domain", "lo", "()I"⟩ : MethodName)) (z := (⟨"com/example/inya/inya/Domain", "lo", "()I"⟩ : MethodName)) hown (mvT hZ (ow hw 179 rfl)) (mvT hZ (ow hw 180 rfl)) (notFace_of_selects (args := #[]) (mvT hZ (ow hw 182 rfl))) (mvT hZ (ow hw 182 rfl)) (mvT hZ (ow hw 181 rfl)) (by decide) (backOf (W := 2) (rm_dlo l Z a0 hw [] eC lC hC h228 n0 _ Z228  V231_) hZ (ow hw 183 rfl) (ow hw 40 rfl) (by decide) (by decide)) q231a q231c (g := (mkF m 164 #[rv a, rv ls, iv 3, iv 0, .val (.int (((0 : Int32) + (bt lA hA)) + (bt lB hB))), iv 2, rv x2, .val (.long (((hC.toInt64) - (lC.toInt64)) + (1 : Int64))), sv, iv (bt lC hC)] [(.ref eC), (.int 2), (.ref b171)])) rfl (by rw [hml]; rfl) (Steps.refl _) (argsL := []) (rest := [(.int 2), (.ref b171)]) (lenOf pd_21 rfl) rfl (by show 2 * 0 + _ ≤ _; exact Nat.le_of_eq rfl) (hb hby d77m1_164) (fun _ _ => ⟨rfl, e230, nb rfl, nb rfl⟩)
  dsimp only [Pt.U, Pt.locs, Pt.cells, Pt.slots] at X231 l231 y231 z231 st231 hQ231
  rw [l231, y231, z231] at X231
  obtain ⟨rfl, rfl, e231⟩ := hQ231
  have N231 := Fr.app N230 (Fr.nil n0)
  refine OGets.after st231 ?_
  obtain ⟨cl232, Ar232, S232⟩ := V231_.arr 8 rfl
  obtain ⟨T232, h232, X232, e232, W232', st232⟩ := stI X231 hx hZ e231 Ar232 (j := (2 : Int32)) (own_inb S232 2 (by decide) (nb rfl)) (g := (mkF m 167 #[rv a, rv ls, iv 3, iv 0, .val (.int (((0 : Int32) + (bt lA hA)) + (bt lB hB))), iv 2, rv x2, .val (.long (((hC.toInt64) - (lC.toInt64)) + (1 : Int64))), sv, iv (bt lC hC)] [(.int lC), (.int 2), (.ref b171)])) rfl rfl (hb hby d77m1_167)
  have W232 := own_wr (vs := []) 2 (by decide) W232'
  have V232 : OView Z n0 h232 (oD eC [(.int 0), (.int lC), (.int hC)] :: oV x2 [.null, .null, (.ref eC), (.int iC), .null] :: oL ls [(.int 3), (.ref b), (.int 3)] :: oO3 b x0 x1 x2 :: oD eB [(.int 0), (.int lB), (.int hB)] :: oV x1 [.null, .null, (.ref eB), (.int iB), .null] :: oD eA [(.int 0), (.int lA), (.int hA)] :: oV x0 [.null, .null, (.ref eA), (.int iA), .null] :: oI b171 [lA, lB, lC] :: oK b169 [(msk (bt lA hA)), (msk (bt lB hB)), (msk (bt lC hC))] :: oI b167 [0, ((0 : Int32) + (bt lA hA)), (((0 : Int32) + (bt lA hA)) + (bt lB hB))] :: oI b165 [0, 0, 0] :: oI b163 [iA, iB, iC] :: oY a [(.ref b163), (.ref b165), (.ref b167), (.ref b169), (.ref b171), (.int 0)] :: F) := V231_.putA 8 rfl W232
  have N232 := Fr.snoc X232 N231 (V231_.old 8 rfl)
  have Z232 : n0 ≤ h232.size := by rw [W232.size]; exact Z228
  refine og st232 ?_
  refine og (fun _ => XS.iload X232.here hx rfl (hb hby d77m1_168) rfl) ?_
  refine og (fun _ => XS.iload X232.here hx rfl (hb hby d77m1_170) rfl) ?_
  refine og (fun _ => XS.iadd X232.here hx rfl (hb hby d77m1_172) rfl) ?_
  refine og (fun _ => XS.istore X232.here hx rfl (hb hby d77m1_173) rfl (l' := #[rv a, rv ls, iv 3, iv 0, .val (.int ((((0 : Int32) + (bt lA hA)) + (bt lB hB)) + (bt lC hC))), iv 2, rv x2, .val (.long (((hC.toInt64) - (lC.toInt64)) + (1 : Int64))), sv, iv (bt lC hC)]) rfl) ?_
  refine og (fun _ => XS.iinc X232.here hx rfl (hb hby d77m1_175) rfl (l' := #[rv a, rv ls, iv 3, iv 0, .val (.int ((((0 : Int32) + (bt lA hA)) + (bt lB hB)) + (bt lC hC))), iv 3, rv x2, .val (.long (((hC.toInt64) - (lC.toInt64)) + (1 : Int64))), sv, iv (bt lC hC)]) rfl) ?_
  show OGets p e below _ (T232.setTop (mkF m 178 #[rv a, rv ls, iv 3, iv 0, .val (.int ((((0 : Int32) + (bt lA hA)) + (bt lB hB)) + (bt lC hC))), iv 3, rv x2, .val (.long (((hC.toInt64) - (lC.toInt64)) + (1 : Int64))), sv, iv (bt lC hC)] []))
  refine og (fun _ => XS.goto X232.here hx rfl (pc0 := 178) (pc' := 54) rfl (hb hby d77m1_178) (by decide) (by decide)) ?_
  refine og (fun _ => XS.iload X232.here hx rfl (hb hby d77m1_54) rfl) ?_
  refine og (fun _ => XS.iloadN X232.here hx rfl (hb hby d77m1_56) rfl) ?_
  refine og (fun _ => XS.icmpYes X232.here hx rfl (pc0 := 57) (pc' := 181) rfl (hb hby d77m1_57) rfl (flt (by decide : ¬ ((3 : Int32) < (3 : Int32)))).2.1 (by decide) (by decide)) ?_
  refine og (fun _ => XS.aloadN X232.here hx rfl (hb hby d77m1_181) rfl rfl) ?_
  refine og (fun _ => XS.iloadN X232.here hx rfl (hb hby d77m1_182) rfl) ?_
  show OGets p e below _ (T232.setTop (mkF m 183 #[rv a, rv ls, iv 3, iv 0, .val (.int ((((0 : Int32) + (bt lA hA)) + (bt lB hB)) + (bt lC hC))), iv 3, rv x2, .val (.long (((hC.toInt64) - (lC.toInt64)) + (1 : Int64))), sv, iv (bt lC hC)] [(.int 0), (.ref a)]))
  refine og (fun _ => XS.iconst X232.here hx rfl (hb hby d77m1_183)) ?_
  refine og (fun _ => XS.iadd X232.here hx rfl (hb hby d77m1_184) rfl) ?_
  show OGets p e below _ (T232.setTop (mkF m 185 #[rv a, rv ls, iv 3, iv 0, .val (.int ((((0 : Int32) + (bt lA hA)) + (bt lB hB)) + (bt lC hC))), iv 3, rv x2, .val (.long (((hC.toInt64) - (lC.toInt64)) + (1 : Int64))), sv, iv (bt lC hC)] [(.int 1), (.ref a)]))
  obtain ⟨T234, h234, X234, e234, W234, st234⟩ := putF X232 hx hZ hown (host := "") (Or.inl (ow hw 184 rfl)) Via.refl e232 (V232.fld 13 rfl 5 rfl rfl) (V232.exa 13 rfl) (Or.inr ⟨(ow hw 185 rfl), rfl, hnm⟩) (ow hw 105 rfl) (ty := .int) (by decide) rfl rfl (g := (mkF m 185 #[rv a, rv ls, iv 3, iv 0, .val (.int ((((0 : Int32) + (bt lA hA)) + (bt lB hB)) + (bt lC hC))), iv 3, rv x2, .val (.long (((hC.toInt64) - (lC.toInt64)) + (1 : Int64))), sv, iv (bt lC hC)] [(.int 1), (.ref a)])) rfl rfl (hb hby d77m1_185)
  have V234 : OView Z n0 h234 (oD eC [(.int 0), (.int lC), (.int hC)] :: oV x2 [.null, .null, (.ref eC), (.int iC), .null] :: oL ls [(.int 3), (.ref b), (.int 3)] :: oO3 b x0 x1 x2 :: oD eB [(.int 0), (.int lB), (.int hB)] :: oV x1 [.null, .null, (.ref eB), (.int iB), .null] :: oD eA [(.int 0), (.int lA), (.int hA)] :: oV x0 [.null, .null, (.ref eA), (.int iA), .null] :: oI b171 [lA, lB, lC] :: oK b169 [(msk (bt lA hA)), (msk (bt lB hB)), (msk (bt lC hC))] :: oI b167 [0, ((0 : Int32) + (bt lA hA)), (((0 : Int32) + (bt lA hA)) + (bt lB hB))] :: oI b165 [0, 0, 0] :: oI b163 [iA, iB, iC] :: oY a [(.ref b163), (.ref b165), (.ref b167), (.ref b169), (.ref b171), (.int 1)] :: F) := V232.putF 13 rfl 5 rfl W234
  have N234 := Fr.snoc X234 N232 (V232.old 13 rfl)
  have Z234 : n0 ≤ h234.size := by rw [W234.size]; exact Z232
  refine og st234 ?_
  refine OGets.retV X234 hx hlk Bd.returns (hb hby d77m1_188) (nb rfl) (nb rfl) ?_
  have Vd235 : OView Z _ h234 (oI b171 [lA, lB, lC] :: oK b169 [(msk (bt lA hA)), (msk (bt lB hB)), (msk (bt lC hC))] :: oI b167 [0, ((0 : Int32) + (bt lA hA)), (((0 : Int32) + (bt lA hA)) + (bt lB hB))] :: oI b165 [0, 0, 0] :: oI b163 [iA, iB, iC] :: oY a [(.ref b163), (.ref b165), (.ref b167), (.ref b169), (.ref b171), (.int 1)] :: F) := (((((((V234.bring 2 rfl).tail.bring 2 rfl).tail.bring 5 rfl).tail.bring 3 rfl).tail.bring 1 rfl).tail.bring 2 rfl).tail.bring 1 rfl).tail.tail
  have Vp236 : OView Z _ h234 (oY a [(.ref b163), (.ref b165), (.ref b167), (.ref b169), (.ref b171), (.int 1)] :: oI b163 [iA, iB, iC] :: oI b165 [0, 0, 0] :: oI b167 [0, ((0 : Int32) + (bt lA hA)), (((0 : Int32) + (bt lA hA)) + (bt lB hB))] :: oK b169 [(msk (bt lA hA)), (msk (bt lB hB)), (msk (bt lC hC))] :: oI b171 [lA, lB, lC] :: F) := (((((Vd235.bring 1 rfl).bring 2 rfl).bring 3 rfl).bring 4 rfl).bring 5 rfl)
  rw [e234]
  exact ⟨rfl, N234, b163, b165, b167, b169, b171, Vp236⟩
theorem d77m1_105 : decode prog_77_method_1_code 105 = .ok (.iinc 3 1, 3) := by decide +kernel
theorem d77m1_108 : decode prog_77_method_1_code 108 = .ok (.iconst 0, 1) := by decide +kernel
theorem d77m1_109 : decode prog_77_method_1_code 109 = .ok (.istore 4, 2) := by decide +kernel
theorem ef_sin1 (m : MethodId) (x0 : Addr) (x1 : Addr) : entryFrame m #[(.ref x0), (.ref x1)] 10 = mkF m 0 #[.val (.ref x0), .val (.ref x1), .unset, .unset, .unset, .unset, .unset, .unset, .unset, .unset] [] := by first | (simp [entryFrame, mkF, argsToLocals, Value.category]; done) | rfl
def Q_sin1 (Z : State) (a : Addr) (ls : Addr) (b : Addr) (x0 : Addr) (x1 : Addr) (x2 : Addr) (eA : Addr) (eB : Addr) (eC : Addr) (iA : Int32) (iB : Int32) (iC : Int32) (lA : Int32) (hA : Int32) (lB : Int32) (hB : Int32) (lC : Int32) (hC : Int32) (h0 : Heap) (n0 : Nat) (F : List (Addr × OObj)) (v : Option Value) (h : Heap) (L : List Loc) : Prop := v = none ∧ Fr n0 L ∧ ∃ ai aw ash am ao : Addr, OView Z n0 h (oY a [(.ref ai), (.ref aw), (.ref ash), (.ref am), (.ref ao), (.int (2 : Int32))] :: oI ai [iA, iB, iC] :: oI aw [(0 : Int32), (0 : Int32), (1 : Int32)] :: oI ash [(0 : Int32), ((0 : Int32) + (bt lA hA)), (0 : Int32)] :: oK am [(msk (bt lA hA)), (msk (bt lB hB)), (msk (bt lC hC))] :: oI ao [lA, lB, lC] :: F)
set_option maxRecDepth 65536 in
set_option maxHeartbeats 40000000 in
theorem rm_sin1 (l : Launch) (Z : State) (a0 : Array Value) (hw : ∀ d ∈ tables_1, d.before a0 Z = true) (ws : List Jvm.Cond) (a : Addr) (ls : Addr) (b : Addr) (x0 : Addr) (x1 : Addr) (x2 : Addr) (eA : Addr) (eB : Addr) (eC : Addr) (iA : Int32) (iB : Int32) (iC : Int32) (lA : Int32) (hA : Int32) (lB : Int32) (hB : Int32) (lC : Int32) (hC : Int32) (h0 : Heap) (n0 : Nat) (F : List (Addr × OObj)) (Z0 : n0 ≤ h0.size) (hb0 : ¬ ((64 : Int32) < ((0 : Int32) + (bt lA hA)))) (hb1 : ¬ ((64 : Int32) < (((0 : Int32) + (bt lA hA)) + (bt lB hB)))) (hb2 : (64 : Int32) < ((((0 : Int32) + (bt lA hA)) + (bt lB hB)) + (bt lC hC))) (V0 : OView Z n0 h0 (oY a [.null, .null, .null, .null, .null, (.int 0)] :: oL ls [(.int 3), (.ref b), (.int 3)] :: oO3 b x0 x1 x2 :: oV x0 [.null, .null, (.ref eA), (.int iA), .null] :: oV x1 [.null, .null, (.ref eB), (.int iB), .null] :: oV x2 [.null, .null, (.ref eC), (.int iC), .null] :: oD eA [(.int 0), (.int lA), (.int hA)] :: oD eB [(.int 0), (.int lB), (.int hB)] :: oD eC [(.int 0), (.int lC), (.int hC)] :: F)) :
    MetFree l (⟨"com/example/inya/inya/StateLayout", "<init>", "(Ljava/util/List;)V"⟩ : MethodName) (head1 (Jvm.Cond.code (⟨"com/example/inya/inya/StateLayout", "<init>", "(Ljava/util/List;)V"⟩ : MethodName) prog_77_method_1_code 10 none :: ws) ({ frames := 3, cells := 5, slots := 15, locals := 40 } : Room)) (fun a_ U => a_ = #[(.ref a), (.ref ls)] ∧ Z.Warmed39 U.vm ∧ U.heap = h0) (fun _ _ _ _ _ => True) (fun _ U o U' => ∃ v L, o = .returned v ∧ Q_sin1 Z a ls b x0 x1 x2 eA eB eC iA iB iC lA hA lB hB lC hC h0 n0 F v U'.heap L ∧ FrameEnd U o U' L ({ frames := 3, cells := 5, slots := 15, locals := 40 } : Room).cells ({ frames := 3, cells := 5, slots := 15, locals := 40 } : Room).slots) := by
  refine MetFree.of_bodySF (plainFor_of_name pn_20) hisR ?_
  intro p e s m args below meth c s₁ Bd hml0 hP hK
  obtain ⟨rfl, hZ, hh⟩ := hP
  have hx := Bd.exec
  have hby := Bd.bytes
  have hlk : meth.locks = false := Bd.notSynchronized
  have hml : c.maxLocals = 10 := hml0
  have hown : s.vm.findClass "com/example/inya/inya/StateLayout" = some m.cls := findClass_of_methodNamed Bd.named
  have hnm := (name_of_methodNamed Bd.named Bd.method).1
  have X0 : Stand p l e ({ frames := 3, cells := 5, slots := 15, locals := 40 } : Room) s m #[(.ref a), (.ref ls)] below meth c s₁ [] 0 0 := Stand.of_body Bd
  have e0 : s₁.heap = h0 := by rw [← hh, Bd.state]; rfl
  have N0 := Fr.nil n0
  show OGets p e below (OLeaves s (Q_sin1 Z a ls b x0 x1 x2 eA eB eC iA iB iC lA hA lB hB lC hC h0 n0 F ) ({ frames := 3, cells := 5, slots := 15, locals := 40 } : Room).cells ({ frames := 3, cells := 5, slots := 15, locals := 40 } : Room).slots) _
  refine OGets.enter (ef_sin1 m a ls) ?_
  show OGets p e below _ (s₁.setTop (mkF m 0 #[rv a, rv ls, uv, uv, uv, uv, uv, uv, uv, uv] []))
  refine og (fun _ => XS.aloadN X0.here hx rfl (hb hby d77m1_0) rfl rfl) ?_
  obtain ⟨T237, X237, e237, st237⟩ := initO X0 hx hZ hown (ow hw 110 rfl) (ow hw 28 rfl) (ow hw 29 rfl) e0 (g := (mkF m 1 #[rv a, rv ls, uv, uv, uv, uv, uv, uv, uv, uv] [(.ref a)])) rfl (by rw [hml]; rfl) rfl (hb hby d77m1_1) (by decide) (W := 0) (by show 2 * 0 + _ ≤ _; exact Nat.le_of_eq rfl) (by decide)
  refine og st237 ?_
  refine og (fun _ => XS.aloadN X237.here hx rfl (hb hby d77m1_4) rfl rfl) ?_
  have V238_ : OView Z _ h0 (oL ls [(.int 3), (.ref b), (.int 3)] :: oY a [.null, .null, .null, .null, .null, (.int 0)] :: oO3 b x0 x1 x2 :: oV x0 [.null, .null, (.ref eA), (.int iA), .null] :: oV x1 [.null, .null, (.ref eB), (.int iB), .null] :: oV x2 [.null, .null, (.ref eC), (.int iC), .null] :: oD eA [(.int 0), (.int lA), (.int hA)] :: oD eB [(.int 0), (.int lB), (.int hB)] :: oD eC [(.int 0), (.int lC), (.int hC)] :: F) := (V0.bring 1 rfl)
  obtain ⟨cq238, kq238, q238a, q238b, q238c⟩ := isOf hZ e237 (V238_.exa 0 rfl)
  obtain ⟨_, _, ⟨T238, L238, k238, n238⟩, -, X238, ⟨Lc238, hQ238, l238, y238, z238⟩, st238⟩ := X237.interfaceBack hx (xi := (⟨"java/util/List", "size", "()I"⟩ : MethodName)) (y := (⟨"java/util/ArrayList", "size", "()I"⟩ : MethodName)) hown (mvT hZ (ow hw 111 rfl)) (mvT hZ (ow hw 112 rfl)) (mvT hZ (ow hw 113 rfl)) (mvT hZ (ow hw 114 rfl)) (mvT hZ (ow hw 115 rfl)) (mvT hZ (ow hw 116 rfl)) (mvT hZ (ow hw 117 rfl)) (mvT hZ (ow hw 118 rfl)) (by decide) (backOf (W := 0) (rm_sz l Z a0 hw [] ls b h0 n0 _ Z0  V238_) hZ (ow hw 119 rfl) (ow hw 11 rfl) (by decide) (by decide)) q238a q238b q238c (g := (mkF m 5 #[rv a, rv ls, uv, uv, uv, uv, uv, uv, uv, uv] [(.ref ls)])) rfl (by rw [hml]; rfl) (Steps.refl _) (argsL := []) (rest := []) (lenOf pd_21 rfl) rfl (by show 2 * 0 + _ ≤ _; exact Nat.le_of_eq rfl) (hb hby d77m1_5) (fun _ _ => ⟨rfl, e237, nb rfl, nb rfl⟩)
  dsimp only [Pt.U, Pt.locs, Pt.cells, Pt.slots] at X238 l238 y238 z238 st238 hQ238
  rw [l238, y238, z238] at X238
  obtain ⟨rfl, rfl, e238⟩ := hQ238
  have N238 := Fr.app N0 (Fr.nil n0)
  refine OGets.after st238 ?_
  refine og (fun _ => XS.istoreN X238.here hx rfl (hb hby d77m1_10) rfl (l' := #[rv a, rv ls, iv 3, uv, uv, uv, uv, uv, uv, uv]) rfl) ?_
  refine og (fun _ => XS.aloadN X238.here hx rfl (hb hby d77m1_11) rfl rfl) ?_
  refine og (fun _ => XS.iloadN X238.here hx rfl (hb hby d77m1_12) rfl) ?_
  obtain ⟨T239, h239, k239, X239, e239, E239, A239, st239⟩ := newP X238 hx hZ (ow hw 120 rfl) e238 (g := (mkF m 13 #[rv a, rv ls, iv 3, uv, uv, uv, uv, uv, uv, uv] [(.int 3), (.ref a)])) rfl (hb hby d77m1_13) rfl (by decide) (cap := 3) (by decide) (by decide) (by decide) (by decide)
  have V239' := V238_.newArr Z0 E239 A239 3 rfl
  have Z239 : n0 ≤ h239.size := Nat.le_trans Z0 E239.1
  obtain ⟨b239, g239⟩ : ∃ z, z = h0.size := ⟨_, rfl⟩
  rw [← g239] at V239' st239
  have V239 : OView Z n0 h239 (oI b239 [0, 0, 0] :: oL ls [(.int 3), (.ref b), (.int 3)] :: oY a [.null, .null, .null, .null, .null, (.int 0)] :: oO3 b x0 x1 x2 :: oV x0 [.null, .null, (.ref eA), (.int iA), .null] :: oV x1 [.null, .null, (.ref eB), (.int iB), .null] :: oV x2 [.null, .null, (.ref eC), (.int iC), .null] :: oD eA [(.int 0), (.int lA), (.int hA)] :: oD eB [(.int 0), (.int lB), (.int hB)] :: oD eC [(.int 0), (.int lC), (.int hC)] :: F) := V239'
  refine og st239 ?_
  obtain ⟨T240, h240, X240, e240, W240, st240⟩ := putF X239 hx hZ hown (host := "") (Or.inl (ow hw 121 rfl)) Via.refl e239 (V239.fld 2 rfl 0 rfl rfl) (V239.exa 2 rfl) (Or.inr ⟨(ow hw 122 rfl), rfl, hnm⟩) (ow hw 105 rfl) (ty := (.array .int)) (by decide) rfl rfl (g := (mkF m 15 #[rv a, rv ls, iv 3, uv, uv, uv, uv, uv, uv, uv] [(.ref b239), (.ref a)])) rfl rfl (hb hby d77m1_15)
  have V240 : OView Z n0 h240 (oI b239 [0, 0, 0] :: oL ls [(.int 3), (.ref b), (.int 3)] :: oY a [(.ref b239), .null, .null, .null, .null, (.int 0)] :: oO3 b x0 x1 x2 :: oV x0 [.null, .null, (.ref eA), (.int iA), .null] :: oV x1 [.null, .null, (.ref eB), (.int iB), .null] :: oV x2 [.null, .null, (.ref eC), (.int iC), .null] :: oD eA [(.int 0), (.int lA), (.int hA)] :: oD eB [(.int 0), (.int lB), (.int hB)] :: oD eC [(.int 0), (.int lC), (.int hC)] :: F) := V239.putF 2 rfl 0 rfl W240
  have N240 := Fr.snoc X240 N238 (V239.old 2 rfl)
  have Z240 : n0 ≤ h240.size := by rw [W240.size]; exact Z239
  refine og st240 ?_
  refine og (fun _ => XS.aloadN X240.here hx rfl (hb hby d77m1_18) rfl rfl) ?_
  refine og (fun _ => XS.iloadN X240.here hx rfl (hb hby d77m1_19) rfl) ?_
  obtain ⟨T241, h241, k241, X241, e241, E241, A241, st241⟩ := newP X240 hx hZ (ow hw 120 rfl) e240 (g := (mkF m 20 #[rv a, rv ls, iv 3, uv, uv, uv, uv, uv, uv, uv] [(.int 3), (.ref a)])) rfl (hb hby d77m1_20) rfl (by decide) (cap := 3) (by decide) (by decide) (by decide) (by decide)
  have V241' := V240.newArr Z240 E241 A241 3 rfl
  have Z241 : n0 ≤ h241.size := Nat.le_trans Z240 E241.1
  obtain ⟨b241, g241⟩ : ∃ z, z = h240.size := ⟨_, rfl⟩
  rw [← g241] at V241' st241
  have V241 : OView Z n0 h241 (oI b241 [0, 0, 0] :: oI b239 [0, 0, 0] :: oL ls [(.int 3), (.ref b), (.int 3)] :: oY a [(.ref b239), .null, .null, .null, .null, (.int 0)] :: oO3 b x0 x1 x2 :: oV x0 [.null, .null, (.ref eA), (.int iA), .null] :: oV x1 [.null, .null, (.ref eB), (.int iB), .null] :: oV x2 [.null, .null, (.ref eC), (.int iC), .null] :: oD eA [(.int 0), (.int lA), (.int hA)] :: oD eB [(.int 0), (.int lB), (.int hB)] :: oD eC [(.int 0), (.int lC), (.int hC)] :: F) := V241'
  refine og st241 ?_
  obtain ⟨T242, h242, X242, e242, W242, st242⟩ := putF X241 hx hZ hown (host := "") (Or.inl (ow hw 123 rfl)) Via.refl e241 (V241.fld 3 rfl 1 rfl rfl) (V241.exa 3 rfl) (Or.inr ⟨(ow hw 124 rfl), rfl, hnm⟩) (ow hw 105 rfl) (ty := (.array .int)) (by decide) rfl rfl (g := (mkF m 22 #[rv a, rv ls, iv 3, uv, uv, uv, uv, uv, uv, uv] [(.ref b241), (.ref a)])) rfl rfl (hb hby d77m1_22)
  have V242 : OView Z n0 h242 (oI b241 [0, 0, 0] :: oI b239 [0, 0, 0] :: oL ls [(.int 3), (.ref b), (.int 3)] :: oY a [(.ref b239), (.ref b241), .null, .null, .null, (.int 0)] :: oO3 b x0 x1 x2 :: oV x0 [.null, .null, (.ref eA), (.int iA), .null] :: oV x1 [.null, .null, (.ref eB), (.int iB), .null] :: oV x2 [.null, .null, (.ref eC), (.int iC), .null] :: oD eA [(.int 0), (.int lA), (.int hA)] :: oD eB [(.int 0), (.int lB), (.int hB)] :: oD eC [(.int 0), (.int lC), (.int hC)] :: F) := V241.putF 3 rfl 1 rfl W242
  have N242 := Fr.snoc X242 N240 (V241.old 3 rfl)
  have Z242 : n0 ≤ h242.size := by rw [W242.size]; exact Z241
  refine og st242 ?_
  refine og (fun _ => XS.aloadN X242.here hx rfl (hb hby d77m1_25) rfl rfl) ?_
  refine og (fun _ => XS.iloadN X242.here hx rfl (hb hby d77m1_26) rfl) ?_
  obtain ⟨T243, h243, k243, X243, e243, E243, A243, st243⟩ := newP X242 hx hZ (ow hw 120 rfl) e242 (g := (mkF m 27 #[rv a, rv ls, iv 3, uv, uv, uv, uv, uv, uv, uv] [(.int 3), (.ref a)])) rfl (hb hby d77m1_27) rfl (by decide) (cap := 3) (by decide) (by decide) (by decide) (by decide)
  have V243' := V242.newArr Z242 E243 A243 3 rfl
  have Z243 : n0 ≤ h243.size := Nat.le_trans Z242 E243.1
  obtain ⟨b243, g243⟩ : ∃ z, z = h242.size := ⟨_, rfl⟩
  rw [← g243] at V243' st243
  have V243 : OView Z n0 h243 (oI b243 [0, 0, 0] :: oI b241 [0, 0, 0] :: oI b239 [0, 0, 0] :: oL ls [(.int 3), (.ref b), (.int 3)] :: oY a [(.ref b239), (.ref b241), .null, .null, .null, (.int 0)] :: oO3 b x0 x1 x2 :: oV x0 [.null, .null, (.ref eA), (.int iA), .null] :: oV x1 [.null, .null, (.ref eB), (.int iB), .null] :: oV x2 [.null, .null, (.ref eC), (.int iC), .null] :: oD eA [(.int 0), (.int lA), (.int hA)] :: oD eB [(.int 0), (.int lB), (.int hB)] :: oD eC [(.int 0), (.int lC), (.int hC)] :: F) := V243'
  refine og st243 ?_
  obtain ⟨T244, h244, X244, e244, W244, st244⟩ := putF X243 hx hZ hown (host := "") (Or.inl (ow hw 125 rfl)) Via.refl e243 (V243.fld 4 rfl 2 rfl rfl) (V243.exa 4 rfl) (Or.inr ⟨(ow hw 126 rfl), rfl, hnm⟩) (ow hw 105 rfl) (ty := (.array .int)) (by decide) rfl rfl (g := (mkF m 29 #[rv a, rv ls, iv 3, uv, uv, uv, uv, uv, uv, uv] [(.ref b243), (.ref a)])) rfl rfl (hb hby d77m1_29)
  have V244 : OView Z n0 h244 (oI b243 [0, 0, 0] :: oI b241 [0, 0, 0] :: oI b239 [0, 0, 0] :: oL ls [(.int 3), (.ref b), (.int 3)] :: oY a [(.ref b239), (.ref b241), (.ref b243), .null, .null, (.int 0)] :: oO3 b x0 x1 x2 :: oV x0 [.null, .null, (.ref eA), (.int iA), .null] :: oV x1 [.null, .null, (.ref eB), (.int iB), .null] :: oV x2 [.null, .null, (.ref eC), (.int iC), .null] :: oD eA [(.int 0), (.int lA), (.int hA)] :: oD eB [(.int 0), (.int lB), (.int hB)] :: oD eC [(.int 0), (.int lC), (.int hC)] :: F) := V243.putF 4 rfl 2 rfl W244
  have N244 := Fr.snoc X244 N242 (V243.old 4 rfl)
  have Z244 : n0 ≤ h244.size := by rw [W244.size]; exact Z243
  refine og st244 ?_
  refine og (fun _ => XS.aloadN X244.here hx rfl (hb hby d77m1_32) rfl rfl) ?_
  refine og (fun _ => XS.iloadN X244.here hx rfl (hb hby d77m1_33) rfl) ?_
  obtain ⟨T245, h245, k245, X245, e245, E245, A245, st245⟩ := newP X244 hx hZ (ow hw 127 rfl) e244 (g := (mkF m 34 #[rv a, rv ls, iv 3, uv, uv, uv, uv, uv, uv, uv] [(.int 3), (.ref a)])) rfl (hb hby d77m1_34) rfl (by decide) (cap := 3) (by decide) (by decide) (by decide) (by decide)
  have V245' := V244.newArr Z244 E245 A245 3 rfl
  have Z245 : n0 ≤ h245.size := Nat.le_trans Z244 E245.1
  obtain ⟨b245, g245⟩ : ∃ z, z = h244.size := ⟨_, rfl⟩
  rw [← g245] at V245' st245
  have V245 : OView Z n0 h245 (oK b245 [0, 0, 0] :: oI b243 [0, 0, 0] :: oI b241 [0, 0, 0] :: oI b239 [0, 0, 0] :: oL ls [(.int 3), (.ref b), (.int 3)] :: oY a [(.ref b239), (.ref b241), (.ref b243), .null, .null, (.int 0)] :: oO3 b x0 x1 x2 :: oV x0 [.null, .null, (.ref eA), (.int iA), .null] :: oV x1 [.null, .null, (.ref eB), (.int iB), .null] :: oV x2 [.null, .null, (.ref eC), (.int iC), .null] :: oD eA [(.int 0), (.int lA), (.int hA)] :: oD eB [(.int 0), (.int lB), (.int hB)] :: oD eC [(.int 0), (.int lC), (.int hC)] :: F) := V245'
  refine og st245 ?_
  obtain ⟨T246, h246, X246, e246, W246, st246⟩ := putF X245 hx hZ hown (host := "") (Or.inl (ow hw 128 rfl)) Via.refl e245 (V245.fld 5 rfl 3 rfl rfl) (V245.exa 5 rfl) (Or.inr ⟨(ow hw 129 rfl), rfl, hnm⟩) (ow hw 105 rfl) (ty := (.array .long)) (by decide) rfl rfl (g := (mkF m 36 #[rv a, rv ls, iv 3, uv, uv, uv, uv, uv, uv, uv] [(.ref b245), (.ref a)])) rfl rfl (hb hby d77m1_36)
  have V246 : OView Z n0 h246 (oK b245 [0, 0, 0] :: oI b243 [0, 0, 0] :: oI b241 [0, 0, 0] :: oI b239 [0, 0, 0] :: oL ls [(.int 3), (.ref b), (.int 3)] :: oY a [(.ref b239), (.ref b241), (.ref b243), (.ref b245), .null, (.int 0)] :: oO3 b x0 x1 x2 :: oV x0 [.null, .null, (.ref eA), (.int iA), .null] :: oV x1 [.null, .null, (.ref eB), (.int iB), .null] :: oV x2 [.null, .null, (.ref eC), (.int iC), .null] :: oD eA [(.int 0), (.int lA), (.int hA)] :: oD eB [(.int 0), (.int lB), (.int hB)] :: oD eC [(.int 0), (.int lC), (.int hC)] :: F) := V245.putF 5 rfl 3 rfl W246
  have N246 := Fr.snoc X246 N244 (V245.old 5 rfl)
  have Z246 : n0 ≤ h246.size := by rw [W246.size]; exact Z245
  refine og st246 ?_
  refine og (fun _ => XS.aloadN X246.here hx rfl (hb hby d77m1_39) rfl rfl) ?_
  refine og (fun _ => XS.iloadN X246.here hx rfl (hb hby d77m1_40) rfl) ?_
  obtain ⟨T247, h247, k247, X247, e247, E247, A247, st247⟩ := newP X246 hx hZ (ow hw 120 rfl) e246 (g := (mkF m 41 #[rv a, rv ls, iv 3, uv, uv, uv, uv, uv, uv, uv] [(.int 3), (.ref a)])) rfl (hb hby d77m1_41) rfl (by decide) (cap := 3) (by decide) (by decide) (by decide) (by decide)
  have V247' := V246.newArr Z246 E247 A247 3 rfl
  have Z247 : n0 ≤ h247.size := Nat.le_trans Z246 E247.1
  obtain ⟨b247, g247⟩ : ∃ z, z = h246.size := ⟨_, rfl⟩
  rw [← g247] at V247' st247
  have V247 : OView Z n0 h247 (oI b247 [0, 0, 0] :: oK b245 [0, 0, 0] :: oI b243 [0, 0, 0] :: oI b241 [0, 0, 0] :: oI b239 [0, 0, 0] :: oL ls [(.int 3), (.ref b), (.int 3)] :: oY a [(.ref b239), (.ref b241), (.ref b243), (.ref b245), .null, (.int 0)] :: oO3 b x0 x1 x2 :: oV x0 [.null, .null, (.ref eA), (.int iA), .null] :: oV x1 [.null, .null, (.ref eB), (.int iB), .null] :: oV x2 [.null, .null, (.ref eC), (.int iC), .null] :: oD eA [(.int 0), (.int lA), (.int hA)] :: oD eB [(.int 0), (.int lB), (.int hB)] :: oD eC [(.int 0), (.int lC), (.int hC)] :: F) := V247'
  refine og st247 ?_
  obtain ⟨T248, h248, X248, e248, W248, st248⟩ := putF X247 hx hZ hown (host := "") (Or.inl (ow hw 130 rfl)) Via.refl e247 (V247.fld 6 rfl 4 rfl rfl) (V247.exa 6 rfl) (Or.inr ⟨(ow hw 131 rfl), rfl, hnm⟩) (ow hw 105 rfl) (ty := (.array .int)) (by decide) rfl rfl (g := (mkF m 43 #[rv a, rv ls, iv 3, uv, uv, uv, uv, uv, uv, uv] [(.ref b247), (.ref a)])) rfl rfl (hb hby d77m1_43)
  have V248 : OView Z n0 h248 (oI b247 [0, 0, 0] :: oK b245 [0, 0, 0] :: oI b243 [0, 0, 0] :: oI b241 [0, 0, 0] :: oI b239 [0, 0, 0] :: oL ls [(.int 3), (.ref b), (.int 3)] :: oY a [(.ref b239), (.ref b241), (.ref b243), (.ref b245), (.ref b247), (.int 0)] :: oO3 b x0 x1 x2 :: oV x0 [.null, .null, (.ref eA), (.int iA), .null] :: oV x1 [.null, .null, (.ref eB), (.int iB), .null] :: oV x2 [.null, .null, (.ref eC), (.int iC), .null] :: oD eA [(.int 0), (.int lA), (.int hA)] :: oD eB [(.int 0), (.int lB), (.int hB)] :: oD eC [(.int 0), (.int lC), (.int hC)] :: F) := V247.putF 6 rfl 4 rfl W248
  have N248 := Fr.snoc X248 N246 (V247.old 6 rfl)
  have Z248 : n0 ≤ h248.size := by rw [W248.size]; exact Z247
  refine og st248 ?_
  refine og (fun _ => XS.iconst X248.here hx rfl (hb hby d77m1_46)) ?_
  refine og (fun _ => XS.istoreN X248.here hx rfl (hb hby d77m1_47) rfl (l' := #[rv a, rv ls, iv 3, iv 0, uv, uv, uv, uv, uv, uv]) rfl) ?_
  refine og (fun _ => XS.iconst X248.here hx rfl (hb hby d77m1_48)) ?_
  refine og (fun _ => XS.istore X248.here hx rfl (hb hby d77m1_49) rfl (l' := #[rv a, rv ls, iv 3, iv 0, iv 0, uv, uv, uv, uv, uv]) rfl) ?_
  refine og (fun _ => XS.iconst X248.here hx rfl (hb hby d77m1_51)) ?_
  show OGets p e below _ (T248.setTop (mkF m 52 #[rv a, rv ls, iv 3, iv 0, iv 0, uv, uv, uv, uv, uv] [(.int 0)]))
  refine og (fun _ => XS.istore X248.here hx rfl (hb hby d77m1_52) rfl (l' := #[rv a, rv ls, iv 3, iv 0, iv 0, iv 0, uv, uv, uv, uv]) rfl) ?_
  refine og (fun _ => XS.iload X248.here hx rfl (hb hby d77m1_54) rfl) ?_
  refine og (fun _ => XS.iloadN X248.here hx rfl (hb hby d77m1_56) rfl) ?_
  refine og (fun _ => XS.icmpNo X248.here hx rfl (hb hby d77m1_57) rfl (tlt (by decide : (0 : Int32) < (3 : Int32))).2.1) ?_
  refine og (fun _ => XS.aloadN X248.here hx rfl (hb hby d77m1_60) rfl rfl) ?_
  refine og (fun _ => XS.iload X248.here hx rfl (hb hby d77m1_61) rfl) ?_
  show OGets p e below _ (T248.setTop (mkF m 63 #[rv a, rv ls, iv 3, iv 0, iv 0, iv 0, uv, uv, uv, uv] [(.int 0), (.ref ls)]))
  have V250_ : OView Z _ h248 (oL ls [(.int 3), (.ref b), (.int 3)] :: oO3 b x0 x1 x2 :: oI b247 [0, 0, 0] :: oK b245 [0, 0, 0] :: oI b243 [0, 0, 0] :: oI b241 [0, 0, 0] :: oI b239 [0, 0, 0] :: oY a [(.ref b239), (.ref b241), (.ref b243), (.ref b245), (.ref b247), (.int 0)] :: oV x0 [.null, .null, (.ref eA), (.int iA), .null] :: oV x1 [.null, .null, (.ref eB), (.int iB), .null] :: oV x2 [.null, .null, (.ref eC), (.int iC), .null] :: oD eA [(.int 0), (.int lA), (.int hA)] :: oD eB [(.int 0), (.int lB), (.int hB)] :: oD eC [(.int 0), (.int lC), (.int hC)] :: F) := ((V248.bring 7 rfl).bring 6 rfl)
  obtain ⟨cq250, kq250, q250a, q250b, q250c⟩ := isOf hZ e248 (V250_.exa 0 rfl)
  obtain ⟨_, _, ⟨T250, L250, k250, n250⟩, -, X250, ⟨Lc250, hQ250, l250, y250, z250⟩, st250⟩ := X248.interfaceBack hx (xi := (⟨"java/util/List", "get", "(I)Ljava/lang/Object;"⟩ : MethodName)) (y := (⟨"java/util/ArrayList", "get", "(I)Ljava/lang/Object;"⟩ : MethodName)) hown (mvT hZ (ow hw 132 rfl)) (mvT hZ (ow hw 133 rfl)) (mvT hZ (ow hw 134 rfl)) (mvT hZ (ow hw 135 rfl)) (mvT hZ (ow hw 136 rfl)) (mvT hZ (ow hw 137 rfl)) (mvT hZ (ow hw 138 rfl)) (mvT hZ (ow hw 118 rfl)) (by decide) (backOf (W := 0) (rm_get0 l Z a0 hw [] ls b x0 x1 x2 h248 n0 _ Z248  V250_) hZ (ow hw 139 rfl) (ow hw 11 rfl) (by decide) (by decide)) q250a q250b q250c (g := (mkF m 63 #[rv a, rv ls, iv 3, iv 0, iv 0, iv 0, uv, uv, uv, uv] [(.int 0), (.ref ls)])) rfl (by rw [hml]; rfl) (Steps.refl _) (argsL := [(.int 0)]) (rest := []) (lenOf pd_19 rfl) rfl (by show 2 * 0 + _ ≤ _; exact Nat.le_of_eq rfl) (hb hby d77m1_63) (fun _ _ => ⟨rfl, e248, nb rfl, nb rfl⟩)
  dsimp only [Pt.U, Pt.locs, Pt.cells, Pt.slots] at X250 l250 y250 z250 st250 hQ250
  rw [l250, y250, z250] at X250
  obtain ⟨rfl, rfl, e250⟩ := hQ250
  have N250 := Fr.app N248 (Fr.nil n0)
  refine OGets.after st250 ?_
  obtain ⟨T251, X251, e251, st251⟩ := castY X250 hx hZ hown (ow hw 153 rfl) e250 (Ins.self (V250_.exa 8 rfl)) (g := (mkF m 68 #[rv a, rv ls, iv 3, iv 0, iv 0, iv 0, uv, uv, uv, uv] [(.ref x0)])) rfl rfl (hb hby d77m1_68)
  refine og st251 ?_
  refine og (fun _ => XS.astore X251.here hx rfl (hb hby d77m1_71) rfl rfl (l' := #[rv a, rv ls, iv 3, iv 0, iv 0, iv 0, rv x0, uv, uv, uv]) rfl) ?_
  refine og (fun _ => XS.aload X251.here hx rfl (hb hby d77m1_73) rfl rfl) ?_
  have V252_ : OView Z _ h248 (oV x0 [.null, .null, (.ref eA), (.int iA), .null] :: oL ls [(.int 3), (.ref b), (.int 3)] :: oO3 b x0 x1 x2 :: oI b247 [0, 0, 0] :: oK b245 [0, 0, 0] :: oI b243 [0, 0, 0] :: oI b241 [0, 0, 0] :: oI b239 [0, 0, 0] :: oY a [(.ref b239), (.ref b241), (.ref b243), (.ref b245), (.ref b247), (.int 0)] :: oV x1 [.null, .null, (.ref eB), (.int iB), .null] :: oV x2 [.null, .null, (.ref eC), (.int iC), .null] :: oD eA [(.int 0), (.int lA), (.int hA)] :: oD eB [(.int 0), (.int lB), (.int hB)] :: oD eC [(.int 0), (.int lC), (.int hC)] :: F) := (V250_.bring 8 rfl)
  obtain ⟨cq252, kq252, q252a, q252b, q252c⟩ := isOf hZ e251 (V252_.exa 0 rfl)
  obtain ⟨_, _, ⟨T252, L252, k252, n252⟩, -, X252, ⟨Lc252, hQ252, l252, y252, z252⟩, st252⟩ := X251.virtualBack hx (y := (⟨"com/example/inya/inya/Variable", "domain", "()Lcom/example/inya/inya/Domain;"⟩ : MethodName)) (z := (⟨"com/example/inya/inya/Variable", "domain", "()Lcom/example/inya/inya/Domain;"⟩ : MethodName)) hown (mvT hZ (ow hw 155 rfl)) (mvT hZ (ow hw 156 rfl)) (notFace_of_selects (args := #[]) (mvT hZ (ow hw 158 rfl))) (mvT hZ (ow hw 158 rfl)) (mvT hZ (ow hw 157 rfl)) (by decide) (backOf (W := 0) (rm_vdo l Z a0 hw [] x0 eA iA h248 n0 _ Z248  V252_) hZ (ow hw 159 rfl) (ow hw 37 rfl) (by decide) (by decide)) q252a q252c (g := (mkF m 75 #[rv a, rv ls, iv 3, iv 0, iv 0, iv 0, rv x0, uv, uv, uv] [(.ref x0)])) rfl (by rw [hml]; rfl) (Steps.refl _) (argsL := []) (rest := []) (lenOf pd_22 rfl) rfl (by show 2 * 0 + _ ≤ _; exact Nat.le_of_eq rfl) (hb hby d77m1_75) (fun _ _ => ⟨rfl, e251, nb rfl, nb rfl⟩)
  dsimp only [Pt.U, Pt.locs, Pt.cells, Pt.slots] at X252 l252 y252 z252 st252 hQ252
  rw [l252, y252, z252] at X252
  obtain ⟨rfl, rfl, e252⟩ := hQ252
  have N252 := Fr.app N250 (Fr.nil n0)
  refine OGets.after st252 ?_
  have V253_ : OView Z _ h248 (oD eA [(.int 0), (.int lA), (.int hA)] :: oV x0 [.null, .null, (.ref eA), (.int iA), .null] :: oL ls [(.int 3), (.ref b), (.int 3)] :: oO3 b x0 x1 x2 :: oI b247 [0, 0, 0] :: oK b245 [0, 0, 0] :: oI b243 [0, 0, 0] :: oI b241 [0, 0, 0] :: oI b239 [0, 0, 0] :: oY a [(.ref b239), (.ref b241), (.ref b243), (.ref b245), (.ref b247), (.int 0)] :: oV x1 [.null, .null, (.ref eB), (.int iB), .null] :: oV x2 [.null, .null, (.ref eC), (.int iC), .null] :: oD eB [(.int 0), (.int lB), (.int hB)] :: oD eC [(.int 0), (.int lC), (.int hC)] :: F) := (V252_.bring 11 rfl)
  obtain ⟨cq253, kq253, q253a, q253b, q253c⟩ := isOf hZ e252 (V253_.exa 0 rfl)
  obtain ⟨_, _, ⟨T253, L253, k253, n253⟩, -, X253, ⟨Lc253, hQ253, l253, y253, z253⟩, st253⟩ := X252.virtualBack hx (y := (⟨"com/example/inya/inya/Domain", "size", "()J"⟩ : MethodName)) (z := (⟨"com/example/inya/inya/Domain", "size", "()J"⟩ : MethodName)) hown (mvT hZ (ow hw 160 rfl)) (mvT hZ (ow hw 161 rfl)) (notFace_of_selects (args := #[]) (mvT hZ (ow hw 163 rfl))) (mvT hZ (ow hw 163 rfl)) (mvT hZ (ow hw 162 rfl)) (by decide) (backOf (W := 0) (rm_dsz l Z a0 hw [] eA lA hA h248 n0 _ Z248  V253_) hZ (ow hw 164 rfl) (ow hw 40 rfl) (by decide) (by decide)) q253a q253c (g := (mkF m 78 #[rv a, rv ls, iv 3, iv 0, iv 0, iv 0, rv x0, uv, uv, uv] [(.ref eA)])) rfl (by rw [hml]; rfl) (Steps.refl _) (argsL := []) (rest := []) (lenOf pd_23 rfl) rfl (by show 2 * 0 + _ ≤ _; exact Nat.le_of_eq rfl) (hb hby d77m1_78) (fun _ _ => ⟨rfl, e252, nb rfl, nb rfl⟩)
  dsimp only [Pt.U, Pt.locs, Pt.cells, Pt.slots] at X253 l253 y253 z253 st253 hQ253
  rw [l253, y253, z253] at X253
  obtain ⟨rfl, rfl, e253⟩ := hQ253
  have N253 := Fr.app N252 (Fr.nil n0)
  refine OGets.after st253 ?_
  refine og (fun _ => XS.lstore X253.here hx rfl (hb hby d77m1_81) rfl (l' := #[rv a, rv ls, iv 3, iv 0, iv 0, iv 0, rv x0, .val (.long (((hA.toInt64) - (lA.toInt64)) + (1 : Int64))), sv, uv]) rfl) ?_
  refine og (fun _ => XS.bipush X253.here hx rfl (hb hby d77m1_83)) ?_
  refine og (fun _ => XS.lload X253.here hx rfl (hb hby d77m1_85) rfl) ?_
  refine og (fun _ => XS.lconst X253.here hx rfl (hb hby d77m1_87)) ?_
  refine og (fun _ => XS.lsub X253.here hx rfl (hb hby d77m1_88) rfl) ?_
  show OGets p e below _ (T253.setTop (mkF m 89 #[rv a, rv ls, iv 3, iv 0, iv 0, iv 0, rv x0, .val (.long (((hA.toInt64) - (lA.toInt64)) + (1 : Int64))), sv, uv] [(.long ((((hA.toInt64) - (lA.toInt64)) + (1 : Int64)) - (1 : Int64))), (.int 64)]))
  obtain ⟨_, _, ⟨T254, L254, k254, n254⟩, -, X254, ⟨Lc254, hQ254, l254, y254, z254⟩, st254⟩ := Jvm.LawKit.callS X253 hx (y := (⟨"java/lang/Long", "numberOfLeadingZeros", "(J)I"⟩ : MethodName)) hown (mvT hZ (ow hw 165 rfl)) (mvT hZ (ow hw 166 rfl)) (mvT hZ (ow hw 167 rfl)) (mvT hZ (ow hw 168 rfl)) (by decide) (backOf (W := 1) (rm_nl l Z a0 hw [] ((((hA.toInt64) - (lA.toInt64)) + (1 : Int64)) - (1 : Int64)) h248 n0  Z248 ) hZ (ow hw 168 rfl) (ow hw 167 rfl) (by decide) (by decide)) (g := (mkF m 89 #[rv a, rv ls, iv 3, iv 0, iv 0, iv 0, rv x0, .val (.long (((hA.toInt64) - (lA.toInt64)) + (1 : Int64))), sv, uv] [(.long ((((hA.toInt64) - (lA.toInt64)) + (1 : Int64)) - (1 : Int64))), (.int 64)])) rfl (by rw [hml]; rfl) (argsL := [(.long ((((hA.toInt64) - (lA.toInt64)) + (1 : Int64)) - (1 : Int64)))]) (rest := [(.int 64)]) (lenOf pd_24 rfl) rfl (by show 2 * 0 + _ ≤ _; exact Nat.le_of_eq rfl) (hb hby d77m1_89) (fun _ _ => ⟨rfl, e253, nb rfl, nb rfl⟩)
  dsimp only [Pt.U, Pt.locs, Pt.cells, Pt.slots] at X254 l254 y254 z254 st254 hQ254
  rw [l254, y254, z254] at X254
  obtain ⟨rfl, rfl, e254⟩ := hQ254
  have N254 := Fr.app N253 (Fr.nil n0)
  refine og st254 ?_
  refine og (fun _ => XS.isub X254.here hx rfl (hb hby d77m1_92) rfl) ?_
  show OGets p e below _ (T254.setTop (mkF m 93 #[rv a, rv ls, iv 3, iv 0, iv 0, iv 0, rv x0, .val (.long (((hA.toInt64) - (lA.toInt64)) + (1 : Int64))), sv, uv] [(.int (bt lA hA))]))
  refine og (fun _ => XS.istore X254.here hx rfl (hb hby d77m1_93) rfl (l' := #[rv a, rv ls, iv 3, iv 0, iv 0, iv 0, rv x0, .val (.long (((hA.toInt64) - (lA.toInt64)) + (1 : Int64))), sv, iv (bt lA hA)]) rfl) ?_
  refine og (fun _ => XS.iload X254.here hx rfl (hb hby d77m1_95) rfl) ?_
  refine og (fun _ => XS.iload X254.here hx rfl (hb hby d77m1_97) rfl) ?_
  refine og (fun _ => XS.iadd X254.here hx rfl (hb hby d77m1_99) rfl) ?_
  refine og (fun _ => XS.bipush X254.here hx rfl (hb hby d77m1_100)) ?_
  refine og (fun _ => XS.icmpYes X254.here hx rfl (pc0 := 102) (pc' := 111) rfl (hb hby d77m1_102) rfl (flt (hb0 : ¬ ((64 : Int32) < ((0 : Int32) + (bt lA hA))))).2.2.2 (by decide) (by decide)) ?_
  show OGets p e below _ (T254.setTop (mkF m 111 #[rv a, rv ls, iv 3, iv 0, iv 0, iv 0, rv x0, .val (.long (((hA.toInt64) - (lA.toInt64)) + (1 : Int64))), sv, iv (bt lA hA)] []))
  refine og (fun _ => XS.aloadN X254.here hx rfl (hb hby d77m1_111) rfl rfl) ?_
  obtain ⟨T256, X256, e256, st256⟩ := getF X254 hx hZ hown (host := "") (Or.inl (ow hw 121 rfl)) Via.refl e254 (V253_.fld 9 rfl 0 rfl rfl) (g := (mkF m 112 #[rv a, rv ls, iv 3, iv 0, iv 0, iv 0, rv x0, .val (.long (((hA.toInt64) - (lA.toInt64)) + (1 : Int64))), sv, iv (bt lA hA)] [(.ref a)])) rfl rfl (hb hby d77m1_112)
  refine og st256 ?_
  refine og (fun _ => XS.iload X256.here hx rfl (hb hby d77m1_115) rfl) ?_
  refine og (fun _ => XS.aload X256.here hx rfl (hb hby d77m1_117) rfl rfl) ?_
  have V257_ : OView Z _ h248 (oV x0 [.null, .null, (.ref eA), (.int iA), .null] :: oD eA [(.int 0), (.int lA), (.int hA)] :: oL ls [(.int 3), (.ref b), (.int 3)] :: oO3 b x0 x1 x2 :: oI b247 [0, 0, 0] :: oK b245 [0, 0, 0] :: oI b243 [0, 0, 0] :: oI b241 [0, 0, 0] :: oI b239 [0, 0, 0] :: oY a [(.ref b239), (.ref b241), (.ref b243), (.ref b245), (.ref b247), (.int 0)] :: oV x1 [.null, .null, (.ref eB), (.int iB), .null] :: oV x2 [.null, .null, (.ref eC), (.int iC), .null] :: oD eB [(.int 0), (.int lB), (.int hB)] :: oD eC [(.int 0), (.int lC), (.int hC)] :: F) := (V253_.bring 1 rfl)
  obtain ⟨cq257, kq257, q257a, q257b, q257c⟩ := isOf hZ e256 (V257_.exa 0 rfl)
  obtain ⟨_, _, ⟨T257, L257, k257, n257⟩, -, X257, ⟨Lc257, hQ257, l257, y257, z257⟩, st257⟩ := X256.virtualBack hx (y := (⟨"com/example/inya/inya/Variable", "index", "()I"⟩ : MethodName)) (z := (⟨"com/example/inya/inya/Variable", "index", "()I"⟩ : MethodName)) hown (mvT hZ (ow hw 174 rfl)) (mvT hZ (ow hw 175 rfl)) (notFace_of_selects (args := #[]) (mvT hZ (ow hw 177 rfl))) (mvT hZ (ow hw 177 rfl)) (mvT hZ (ow hw 176 rfl)) (by decide) (backOf (W := 2) (rm_vix l Z a0 hw [] x0 eA iA h248 n0 _ Z248  V257_) hZ (ow hw 178 rfl) (ow hw 37 rfl) (by decide) (by decide)) q257a q257c (g := (mkF m 119 #[rv a, rv ls, iv 3, iv 0, iv 0, iv 0, rv x0, .val (.long (((hA.toInt64) - (lA.toInt64)) + (1 : Int64))), sv, iv (bt lA hA)] [(.ref x0), (.int 0), (.ref b239)])) rfl (by rw [hml]; rfl) (Steps.refl _) (argsL := []) (rest := [(.int 0), (.ref b239)]) (lenOf pd_21 rfl) rfl (by show 2 * 0 + _ ≤ _; exact Nat.le_of_eq rfl) (hb hby d77m1_119) (fun _ _ => ⟨rfl, e256, nb rfl, nb rfl⟩)
  dsimp only [Pt.U, Pt.locs, Pt.cells, Pt.slots] at X257 l257 y257 z257 st257 hQ257
  rw [l257, y257, z257] at X257
  obtain ⟨rfl, rfl, e257⟩ := hQ257
  have N257 := Fr.app N254 (Fr.nil n0)
  refine OGets.after st257 ?_
  obtain ⟨cl258, Ar258, S258⟩ := V257_.arr 8 rfl
  obtain ⟨T258, h258, X258, e258, W258', st258⟩ := stI X257 hx hZ e257 Ar258 (j := (0 : Int32)) (own_inb S258 0 (by decide) (nb rfl)) (g := (mkF m 122 #[rv a, rv ls, iv 3, iv 0, iv 0, iv 0, rv x0, .val (.long (((hA.toInt64) - (lA.toInt64)) + (1 : Int64))), sv, iv (bt lA hA)] [(.int iA), (.int 0), (.ref b239)])) rfl rfl (hb hby d77m1_122)
  have W258 := own_wr (vs := []) 0 (by decide) W258'
  have V258 : OView Z n0 h258 (oV x0 [.null, .null, (.ref eA), (.int iA), .null] :: oD eA [(.int 0), (.int lA), (.int hA)] :: oL ls [(.int 3), (.ref b), (.int 3)] :: oO3 b x0 x1 x2 :: oI b247 [0, 0, 0] :: oK b245 [0, 0, 0] :: oI b243 [0, 0, 0] :: oI b241 [0, 0, 0] :: oI b239 [iA, 0, 0] :: oY a [(.ref b239), (.ref b241), (.ref b243), (.ref b245), (.ref b247), (.int 0)] :: oV x1 [.null, .null, (.ref eB), (.int iB), .null] :: oV x2 [.null, .null, (.ref eC), (.int iC), .null] :: oD eB [(.int 0), (.int lB), (.int hB)] :: oD eC [(.int 0), (.int lC), (.int hC)] :: F) := V257_.putA 8 rfl W258
  have N258 := Fr.snoc X258 N257 (V257_.old 8 rfl)
  have Z258 : n0 ≤ h258.size := by rw [W258.size]; exact Z248
  refine og st258 ?_
  refine og (fun _ => XS.aloadN X258.here hx rfl (hb hby d77m1_123) rfl rfl) ?_
  obtain ⟨T259, X259, e259, st259⟩ := getF X258 hx hZ hown (host := "") (Or.inl (ow hw 123 rfl)) Via.refl e258 (V258.fld 9 rfl 1 rfl rfl) (g := (mkF m 124 #[rv a, rv ls, iv 3, iv 0, iv 0, iv 0, rv x0, .val (.long (((hA.toInt64) - (lA.toInt64)) + (1 : Int64))), sv, iv (bt lA hA)] [(.ref a)])) rfl rfl (hb hby d77m1_124)
  refine og st259 ?_
  refine og (fun _ => XS.iload X259.here hx rfl (hb hby d77m1_127) rfl) ?_
  refine og (fun _ => XS.iloadN X259.here hx rfl (hb hby d77m1_129) rfl) ?_
  obtain ⟨cl260, Ar260, S260⟩ := V258.arr 7 rfl
  obtain ⟨T260, h260, X260, e260, W260', st260⟩ := stI X259 hx hZ e259 Ar260 (j := (0 : Int32)) (own_inb S260 0 (by decide) (nb rfl)) (g := (mkF m 130 #[rv a, rv ls, iv 3, iv 0, iv 0, iv 0, rv x0, .val (.long (((hA.toInt64) - (lA.toInt64)) + (1 : Int64))), sv, iv (bt lA hA)] [(.int 0), (.int 0), (.ref b241)])) rfl rfl (hb hby d77m1_130)
  have W260 := own_wr (vs := []) 0 (by decide) W260'
  have V260 : OView Z n0 h260 (oV x0 [.null, .null, (.ref eA), (.int iA), .null] :: oD eA [(.int 0), (.int lA), (.int hA)] :: oL ls [(.int 3), (.ref b), (.int 3)] :: oO3 b x0 x1 x2 :: oI b247 [0, 0, 0] :: oK b245 [0, 0, 0] :: oI b243 [0, 0, 0] :: oI b241 [0, 0, 0] :: oI b239 [iA, 0, 0] :: oY a [(.ref b239), (.ref b241), (.ref b243), (.ref b245), (.ref b247), (.int 0)] :: oV x1 [.null, .null, (.ref eB), (.int iB), .null] :: oV x2 [.null, .null, (.ref eC), (.int iC), .null] :: oD eB [(.int 0), (.int lB), (.int hB)] :: oD eC [(.int 0), (.int lC), (.int hC)] :: F) := V258.putA 7 rfl W260
  have N260 := Fr.snoc X260 N258 (V258.old 7 rfl)
  have Z260 : n0 ≤ h260.size := by rw [W260.size]; exact Z258
  refine og st260 ?_
  refine og (fun _ => XS.aloadN X260.here hx rfl (hb hby d77m1_131) rfl rfl) ?_
  obtain ⟨T261, X261, e261, st261⟩ := getF X260 hx hZ hown (host := "") (Or.inl (ow hw 125 rfl)) Via.refl e260 (V260.fld 9 rfl 2 rfl rfl) (g := (mkF m 132 #[rv a, rv ls, iv 3, iv 0, iv 0, iv 0, rv x0, .val (.long (((hA.toInt64) - (lA.toInt64)) + (1 : Int64))), sv, iv (bt lA hA)] [(.ref a)])) rfl rfl (hb hby d77m1_132)
  refine og st261 ?_
  refine og (fun _ => XS.iload X261.here hx rfl (hb hby d77m1_135) rfl) ?_
  refine og (fun _ => XS.iload X261.here hx rfl (hb hby d77m1_137) rfl) ?_
  obtain ⟨cl262, Ar262, S262⟩ := V260.arr 6 rfl
  obtain ⟨T262, h262, X262, e262, W262', st262⟩ := stI X261 hx hZ e261 Ar262 (j := (0 : Int32)) (own_inb S262 0 (by decide) (nb rfl)) (g := (mkF m 139 #[rv a, rv ls, iv 3, iv 0, iv 0, iv 0, rv x0, .val (.long (((hA.toInt64) - (lA.toInt64)) + (1 : Int64))), sv, iv (bt lA hA)] [(.int 0), (.int 0), (.ref b243)])) rfl rfl (hb hby d77m1_139)
  have W262 := own_wr (vs := []) 0 (by decide) W262'
  have V262 : OView Z n0 h262 (oV x0 [.null, .null, (.ref eA), (.int iA), .null] :: oD eA [(.int 0), (.int lA), (.int hA)] :: oL ls [(.int 3), (.ref b), (.int 3)] :: oO3 b x0 x1 x2 :: oI b247 [0, 0, 0] :: oK b245 [0, 0, 0] :: oI b243 [0, 0, 0] :: oI b241 [0, 0, 0] :: oI b239 [iA, 0, 0] :: oY a [(.ref b239), (.ref b241), (.ref b243), (.ref b245), (.ref b247), (.int 0)] :: oV x1 [.null, .null, (.ref eB), (.int iB), .null] :: oV x2 [.null, .null, (.ref eC), (.int iC), .null] :: oD eB [(.int 0), (.int lB), (.int hB)] :: oD eC [(.int 0), (.int lC), (.int hC)] :: F) := V260.putA 6 rfl W262
  have N262 := Fr.snoc X262 N260 (V260.old 6 rfl)
  have Z262 : n0 ≤ h262.size := by rw [W262.size]; exact Z260
  refine og st262 ?_
  refine og (fun _ => XS.aloadN X262.here hx rfl (hb hby d77m1_140) rfl rfl) ?_
  obtain ⟨T263, X263, e263, st263⟩ := getF X262 hx hZ hown (host := "") (Or.inl (ow hw 128 rfl)) Via.refl e262 (V262.fld 9 rfl 3 rfl rfl) (g := (mkF m 141 #[rv a, rv ls, iv 3, iv 0, iv 0, iv 0, rv x0, .val (.long (((hA.toInt64) - (lA.toInt64)) + (1 : Int64))), sv, iv (bt lA hA)] [(.ref a)])) rfl rfl (hb hby d77m1_141)
  refine og st263 ?_
  refine og (fun _ => XS.iload X263.here hx rfl (hb hby d77m1_144) rfl) ?_
  refine og (fun _ => XS.lconst X263.here hx rfl (hb hby d77m1_146)) ?_
  refine og (fun _ => XS.iload X263.here hx rfl (hb hby d77m1_147) rfl) ?_
  refine og (fun _ => XS.lshl X263.here hx rfl (hb hby d77m1_149) rfl) ?_
  refine og (fun _ => XS.lconst X263.here hx rfl (hb hby d77m1_150)) ?_
  show OGets p e below _ (T263.setTop (mkF m 151 #[rv a, rv ls, iv 3, iv 0, iv 0, iv 0, rv x0, .val (.long (((hA.toInt64) - (lA.toInt64)) + (1 : Int64))), sv, iv (bt lA hA)] [(.long (1 : Int64)), (.long ((1 : Int64) <<< ((bt lA hA) &&& 0x3f).toInt64)), (.int 0), (.ref b245)]))
  refine og (fun _ => XS.lsub X263.here hx rfl (hb hby d77m1_151) rfl) ?_
  show OGets p e below _ (T263.setTop (mkF m 152 #[rv a, rv ls, iv 3, iv 0, iv 0, iv 0, rv x0, .val (.long (((hA.toInt64) - (lA.toInt64)) + (1 : Int64))), sv, iv (bt lA hA)] [(.long (msk (bt lA hA))), (.int 0), (.ref b245)]))
  obtain ⟨cl264, Ar264, S264⟩ := V262.arr 5 rfl
  obtain ⟨T264, h264, X264, e264, W264', st264⟩ := stJ X263 hx hZ e263 Ar264 (j := (0 : Int32)) (own_inb S264 0 (by decide) (nb rfl)) (g := (mkF m 152 #[rv a, rv ls, iv 3, iv 0, iv 0, iv 0, rv x0, .val (.long (((hA.toInt64) - (lA.toInt64)) + (1 : Int64))), sv, iv (bt lA hA)] [(.long (msk (bt lA hA))), (.int 0), (.ref b245)])) rfl rfl (hb hby d77m1_152)
  have W264 := own_wr (vs := []) 0 (by decide) W264'
  have V264 : OView Z n0 h264 (oV x0 [.null, .null, (.ref eA), (.int iA), .null] :: oD eA [(.int 0), (.int lA), (.int hA)] :: oL ls [(.int 3), (.ref b), (.int 3)] :: oO3 b x0 x1 x2 :: oI b247 [0, 0, 0] :: oK b245 [(msk (bt lA hA)), 0, 0] :: oI b243 [0, 0, 0] :: oI b241 [0, 0, 0] :: oI b239 [iA, 0, 0] :: oY a [(.ref b239), (.ref b241), (.ref b243), (.ref b245), (.ref b247), (.int 0)] :: oV x1 [.null, .null, (.ref eB), (.int iB), .null] :: oV x2 [.null, .null, (.ref eC), (.int iC), .null] :: oD eB [(.int 0), (.int lB), (.int hB)] :: oD eC [(.int 0), (.int lC), (.int hC)] :: F) := V262.putA 5 rfl W264
  have N264 := Fr.snoc X264 N262 (V262.old 5 rfl)
  have Z264 : n0 ≤ h264.size := by rw [W264.size]; exact Z262
  refine og st264 ?_
  refine og (fun _ => XS.aloadN X264.here hx rfl (hb hby d77m1_153) rfl rfl) ?_
  obtain ⟨T265, X265, e265, st265⟩ := getF X264 hx hZ hown (host := "") (Or.inl (ow hw 130 rfl)) Via.refl e264 (V264.fld 9 rfl 4 rfl rfl) (g := (mkF m 154 #[rv a, rv ls, iv 3, iv 0, iv 0, iv 0, rv x0, .val (.long (((hA.toInt64) - (lA.toInt64)) + (1 : Int64))), sv, iv (bt lA hA)] [(.ref a)])) rfl rfl (hb hby d77m1_154)
  refine og st265 ?_
  refine og (fun _ => XS.iload X265.here hx rfl (hb hby d77m1_157) rfl) ?_
  refine og (fun _ => XS.aload X265.here hx rfl (hb hby d77m1_159) rfl rfl) ?_
  obtain ⟨cq266, kq266, q266a, q266b, q266c⟩ := isOf hZ e265 (V264.exa 0 rfl)
  obtain ⟨_, _, ⟨T266, L266, k266, n266⟩, -, X266, ⟨Lc266, hQ266, l266, y266, z266⟩, st266⟩ := X265.virtualBack hx (y := (⟨"com/example/inya/inya/Variable", "domain", "()Lcom/example/inya/inya/Domain;"⟩ : MethodName)) (z := (⟨"com/example/inya/inya/Variable", "domain", "()Lcom/example/inya/inya/Domain;"⟩ : MethodName)) hown (mvT hZ (ow hw 155 rfl)) (mvT hZ (ow hw 156 rfl)) (notFace_of_selects (args := #[]) (mvT hZ (ow hw 158 rfl))) (mvT hZ (ow hw 158 rfl)) (mvT hZ (ow hw 157 rfl)) (by decide) (backOf (W := 2) (rm_vdo l Z a0 hw [] x0 eA iA h264 n0 _ Z264  V264) hZ (ow hw 159 rfl) (ow hw 37 rfl) (by decide) (by decide)) q266a q266c (g := (mkF m 161 #[rv a, rv ls, iv 3, iv 0, iv 0, iv 0, rv x0, .val (.long (((hA.toInt64) - (lA.toInt64)) + (1 : Int64))), sv, iv (bt lA hA)] [(.ref x0), (.int 0), (.ref b247)])) rfl (by rw [hml]; rfl) (Steps.refl _) (argsL := []) (rest := [(.int 0), (.ref b247)]) (lenOf pd_22 rfl) rfl (by show 2 * 0 + _ ≤ _; exact Nat.le_of_eq rfl) (hb hby d77m1_161) (fun _ _ => ⟨rfl, e265, nb rfl, nb rfl⟩)
  dsimp only [Pt.U, Pt.locs, Pt.cells, Pt.slots] at X266 l266 y266 z266 st266 hQ266
  rw [l266, y266, z266] at X266
  obtain ⟨rfl, rfl, e266⟩ := hQ266
  have N266 := Fr.app N264 (Fr.nil n0)
  refine OGets.after st266 ?_
  have V267_ : OView Z _ h264 (oD eA [(.int 0), (.int lA), (.int hA)] :: oV x0 [.null, .null, (.ref eA), (.int iA), .null] :: oL ls [(.int 3), (.ref b), (.int 3)] :: oO3 b x0 x1 x2 :: oI b247 [0, 0, 0] :: oK b245 [(msk (bt lA hA)), 0, 0] :: oI b243 [0, 0, 0] :: oI b241 [0, 0, 0] :: oI b239 [iA, 0, 0] :: oY a [(.ref b239), (.ref b241), (.ref b243), (.ref b245), (.ref b247), (.int 0)] :: oV x1 [.null, .null, (.ref eB), (.int iB), .null] :: oV x2 [.null, .null, (.ref eC), (.int iC), .null] :: oD eB [(.int 0), (.int lB), (.int hB)] :: oD eC [(.int 0), (.int lC), (.int hC)] :: F) := (V264.bring 1 rfl)
  obtain ⟨cq267, kq267, q267a, q267b, q267c⟩ := isOf hZ e266 (V267_.exa 0 rfl)
  obtain ⟨_, _, ⟨T267, L267, k267, n267⟩, -, X267, ⟨Lc267, hQ267, l267, y267, z267⟩, st267⟩ := X266.virtualBack hx (y := (⟨"com/example/inya/inya/Domain", "lo", "()I"⟩ : MethodName)) (z := (⟨"com/example/inya/inya/Domain", "lo", "()I"⟩ : MethodName)) hown (mvT hZ (ow hw 179 rfl)) (mvT hZ (ow hw 180 rfl)) (notFace_of_selects (args := #[]) (mvT hZ (ow hw 182 rfl))) (mvT hZ (ow hw 182 rfl)) (mvT hZ (ow hw 181 rfl)) (by decide) (backOf (W := 2) (rm_dlo l Z a0 hw [] eA lA hA h264 n0 _ Z264  V267_) hZ (ow hw 183 rfl) (ow hw 40 rfl) (by decide) (by decide)) q267a q267c (g := (mkF m 164 #[rv a, rv ls, iv 3, iv 0, iv 0, iv 0, rv x0, .val (.long (((hA.toInt64) - (lA.toInt64)) + (1 : Int64))), sv, iv (bt lA hA)] [(.ref eA), (.int 0), (.ref b247)])) rfl (by rw [hml]; rfl) (Steps.refl _) (argsL := []) (rest := [(.int 0), (.ref b247)]) (lenOf pd_21 rfl) rfl (by show 2 * 0 + _ ≤ _; exact Nat.le_of_eq rfl) (hb hby d77m1_164) (fun _ _ => ⟨rfl, e266, nb rfl, nb rfl⟩)
  dsimp only [Pt.U, Pt.locs, Pt.cells, Pt.slots] at X267 l267 y267 z267 st267 hQ267
  rw [l267, y267, z267] at X267
  obtain ⟨rfl, rfl, e267⟩ := hQ267
  have N267 := Fr.app N266 (Fr.nil n0)
  refine OGets.after st267 ?_
  obtain ⟨cl268, Ar268, S268⟩ := V267_.arr 4 rfl
  obtain ⟨T268, h268, X268, e268, W268', st268⟩ := stI X267 hx hZ e267 Ar268 (j := (0 : Int32)) (own_inb S268 0 (by decide) (nb rfl)) (g := (mkF m 167 #[rv a, rv ls, iv 3, iv 0, iv 0, iv 0, rv x0, .val (.long (((hA.toInt64) - (lA.toInt64)) + (1 : Int64))), sv, iv (bt lA hA)] [(.int lA), (.int 0), (.ref b247)])) rfl rfl (hb hby d77m1_167)
  have W268 := own_wr (vs := []) 0 (by decide) W268'
  have V268 : OView Z n0 h268 (oD eA [(.int 0), (.int lA), (.int hA)] :: oV x0 [.null, .null, (.ref eA), (.int iA), .null] :: oL ls [(.int 3), (.ref b), (.int 3)] :: oO3 b x0 x1 x2 :: oI b247 [lA, 0, 0] :: oK b245 [(msk (bt lA hA)), 0, 0] :: oI b243 [0, 0, 0] :: oI b241 [0, 0, 0] :: oI b239 [iA, 0, 0] :: oY a [(.ref b239), (.ref b241), (.ref b243), (.ref b245), (.ref b247), (.int 0)] :: oV x1 [.null, .null, (.ref eB), (.int iB), .null] :: oV x2 [.null, .null, (.ref eC), (.int iC), .null] :: oD eB [(.int 0), (.int lB), (.int hB)] :: oD eC [(.int 0), (.int lC), (.int hC)] :: F) := V267_.putA 4 rfl W268
  have N268 := Fr.snoc X268 N267 (V267_.old 4 rfl)
  have Z268 : n0 ≤ h268.size := by rw [W268.size]; exact Z264
  refine og st268 ?_
  refine og (fun _ => XS.iload X268.here hx rfl (hb hby d77m1_168) rfl) ?_
  refine og (fun _ => XS.iload X268.here hx rfl (hb hby d77m1_170) rfl) ?_
  refine og (fun _ => XS.iadd X268.here hx rfl (hb hby d77m1_172) rfl) ?_
  refine og (fun _ => XS.istore X268.here hx rfl (hb hby d77m1_173) rfl (l' := #[rv a, rv ls, iv 3, iv 0, .val (.int ((0 : Int32) + (bt lA hA))), iv 0, rv x0, .val (.long (((hA.toInt64) - (lA.toInt64)) + (1 : Int64))), sv, iv (bt lA hA)]) rfl) ?_
  refine og (fun _ => XS.iinc X268.here hx rfl (hb hby d77m1_175) rfl (l' := #[rv a, rv ls, iv 3, iv 0, .val (.int ((0 : Int32) + (bt lA hA))), iv 1, rv x0, .val (.long (((hA.toInt64) - (lA.toInt64)) + (1 : Int64))), sv, iv (bt lA hA)]) rfl) ?_
  show OGets p e below _ (T268.setTop (mkF m 178 #[rv a, rv ls, iv 3, iv 0, .val (.int ((0 : Int32) + (bt lA hA))), iv 1, rv x0, .val (.long (((hA.toInt64) - (lA.toInt64)) + (1 : Int64))), sv, iv (bt lA hA)] []))
  refine og (fun _ => XS.goto X268.here hx rfl (pc0 := 178) (pc' := 54) rfl (hb hby d77m1_178) (by decide) (by decide)) ?_
  refine og (fun _ => XS.iload X268.here hx rfl (hb hby d77m1_54) rfl) ?_
  refine og (fun _ => XS.iloadN X268.here hx rfl (hb hby d77m1_56) rfl) ?_
  refine og (fun _ => XS.icmpNo X268.here hx rfl (hb hby d77m1_57) rfl (tlt (by decide : (1 : Int32) < (3 : Int32))).2.1) ?_
  refine og (fun _ => XS.aloadN X268.here hx rfl (hb hby d77m1_60) rfl rfl) ?_
  refine og (fun _ => XS.iload X268.here hx rfl (hb hby d77m1_61) rfl) ?_
  show OGets p e below _ (T268.setTop (mkF m 63 #[rv a, rv ls, iv 3, iv 0, .val (.int ((0 : Int32) + (bt lA hA))), iv 1, rv x0, .val (.long (((hA.toInt64) - (lA.toInt64)) + (1 : Int64))), sv, iv (bt lA hA)] [(.int 1), (.ref ls)]))
  have V270_ : OView Z _ h268 (oL ls [(.int 3), (.ref b), (.int 3)] :: oO3 b x0 x1 x2 :: oD eA [(.int 0), (.int lA), (.int hA)] :: oV x0 [.null, .null, (.ref eA), (.int iA), .null] :: oI b247 [lA, 0, 0] :: oK b245 [(msk (bt lA hA)), 0, 0] :: oI b243 [0, 0, 0] :: oI b241 [0, 0, 0] :: oI b239 [iA, 0, 0] :: oY a [(.ref b239), (.ref b241), (.ref b243), (.ref b245), (.ref b247), (.int 0)] :: oV x1 [.null, .null, (.ref eB), (.int iB), .null] :: oV x2 [.null, .null, (.ref eC), (.int iC), .null] :: oD eB [(.int 0), (.int lB), (.int hB)] :: oD eC [(.int 0), (.int lC), (.int hC)] :: F) := ((V268.bring 3 rfl).bring 3 rfl)
  obtain ⟨cq270, kq270, q270a, q270b, q270c⟩ := isOf hZ e268 (V270_.exa 0 rfl)
  obtain ⟨_, _, ⟨T270, L270, k270, n270⟩, -, X270, ⟨Lc270, hQ270, l270, y270, z270⟩, st270⟩ := X268.interfaceBack hx (xi := (⟨"java/util/List", "get", "(I)Ljava/lang/Object;"⟩ : MethodName)) (y := (⟨"java/util/ArrayList", "get", "(I)Ljava/lang/Object;"⟩ : MethodName)) hown (mvT hZ (ow hw 132 rfl)) (mvT hZ (ow hw 133 rfl)) (mvT hZ (ow hw 134 rfl)) (mvT hZ (ow hw 135 rfl)) (mvT hZ (ow hw 136 rfl)) (mvT hZ (ow hw 137 rfl)) (mvT hZ (ow hw 138 rfl)) (mvT hZ (ow hw 118 rfl)) (by decide) (backOf (W := 0) (rm_get1 l Z a0 hw [] ls b x0 x1 x2 h268 n0 _ Z268  V270_) hZ (ow hw 139 rfl) (ow hw 11 rfl) (by decide) (by decide)) q270a q270b q270c (g := (mkF m 63 #[rv a, rv ls, iv 3, iv 0, .val (.int ((0 : Int32) + (bt lA hA))), iv 1, rv x0, .val (.long (((hA.toInt64) - (lA.toInt64)) + (1 : Int64))), sv, iv (bt lA hA)] [(.int 1), (.ref ls)])) rfl (by rw [hml]; rfl) (Steps.refl _) (argsL := [(.int 1)]) (rest := []) (lenOf pd_19 rfl) rfl (by show 2 * 0 + _ ≤ _; exact Nat.le_of_eq rfl) (hb hby d77m1_63) (fun _ _ => ⟨rfl, e268, nb rfl, nb rfl⟩)
  dsimp only [Pt.U, Pt.locs, Pt.cells, Pt.slots] at X270 l270 y270 z270 st270 hQ270
  rw [l270, y270, z270] at X270
  obtain ⟨rfl, rfl, e270⟩ := hQ270
  have N270 := Fr.app N268 (Fr.nil n0)
  refine OGets.after st270 ?_
  obtain ⟨T271, X271, e271, st271⟩ := castY X270 hx hZ hown (ow hw 153 rfl) e270 (Ins.self (V270_.exa 10 rfl)) (g := (mkF m 68 #[rv a, rv ls, iv 3, iv 0, .val (.int ((0 : Int32) + (bt lA hA))), iv 1, rv x0, .val (.long (((hA.toInt64) - (lA.toInt64)) + (1 : Int64))), sv, iv (bt lA hA)] [(.ref x1)])) rfl rfl (hb hby d77m1_68)
  refine og st271 ?_
  refine og (fun _ => XS.astore X271.here hx rfl (hb hby d77m1_71) rfl rfl (l' := #[rv a, rv ls, iv 3, iv 0, .val (.int ((0 : Int32) + (bt lA hA))), iv 1, rv x1, .val (.long (((hA.toInt64) - (lA.toInt64)) + (1 : Int64))), sv, iv (bt lA hA)]) rfl) ?_
  refine og (fun _ => XS.aload X271.here hx rfl (hb hby d77m1_73) rfl rfl) ?_
  have V272_ : OView Z _ h268 (oV x1 [.null, .null, (.ref eB), (.int iB), .null] :: oL ls [(.int 3), (.ref b), (.int 3)] :: oO3 b x0 x1 x2 :: oD eA [(.int 0), (.int lA), (.int hA)] :: oV x0 [.null, .null, (.ref eA), (.int iA), .null] :: oI b247 [lA, 0, 0] :: oK b245 [(msk (bt lA hA)), 0, 0] :: oI b243 [0, 0, 0] :: oI b241 [0, 0, 0] :: oI b239 [iA, 0, 0] :: oY a [(.ref b239), (.ref b241), (.ref b243), (.ref b245), (.ref b247), (.int 0)] :: oV x2 [.null, .null, (.ref eC), (.int iC), .null] :: oD eB [(.int 0), (.int lB), (.int hB)] :: oD eC [(.int 0), (.int lC), (.int hC)] :: F) := (V270_.bring 10 rfl)
  obtain ⟨cq272, kq272, q272a, q272b, q272c⟩ := isOf hZ e271 (V272_.exa 0 rfl)
  obtain ⟨_, _, ⟨T272, L272, k272, n272⟩, -, X272, ⟨Lc272, hQ272, l272, y272, z272⟩, st272⟩ := X271.virtualBack hx (y := (⟨"com/example/inya/inya/Variable", "domain", "()Lcom/example/inya/inya/Domain;"⟩ : MethodName)) (z := (⟨"com/example/inya/inya/Variable", "domain", "()Lcom/example/inya/inya/Domain;"⟩ : MethodName)) hown (mvT hZ (ow hw 155 rfl)) (mvT hZ (ow hw 156 rfl)) (notFace_of_selects (args := #[]) (mvT hZ (ow hw 158 rfl))) (mvT hZ (ow hw 158 rfl)) (mvT hZ (ow hw 157 rfl)) (by decide) (backOf (W := 0) (rm_vdo l Z a0 hw [] x1 eB iB h268 n0 _ Z268  V272_) hZ (ow hw 159 rfl) (ow hw 37 rfl) (by decide) (by decide)) q272a q272c (g := (mkF m 75 #[rv a, rv ls, iv 3, iv 0, .val (.int ((0 : Int32) + (bt lA hA))), iv 1, rv x1, .val (.long (((hA.toInt64) - (lA.toInt64)) + (1 : Int64))), sv, iv (bt lA hA)] [(.ref x1)])) rfl (by rw [hml]; rfl) (Steps.refl _) (argsL := []) (rest := []) (lenOf pd_22 rfl) rfl (by show 2 * 0 + _ ≤ _; exact Nat.le_of_eq rfl) (hb hby d77m1_75) (fun _ _ => ⟨rfl, e271, nb rfl, nb rfl⟩)
  dsimp only [Pt.U, Pt.locs, Pt.cells, Pt.slots] at X272 l272 y272 z272 st272 hQ272
  rw [l272, y272, z272] at X272
  obtain ⟨rfl, rfl, e272⟩ := hQ272
  have N272 := Fr.app N270 (Fr.nil n0)
  refine OGets.after st272 ?_
  have V273_ : OView Z _ h268 (oD eB [(.int 0), (.int lB), (.int hB)] :: oV x1 [.null, .null, (.ref eB), (.int iB), .null] :: oL ls [(.int 3), (.ref b), (.int 3)] :: oO3 b x0 x1 x2 :: oD eA [(.int 0), (.int lA), (.int hA)] :: oV x0 [.null, .null, (.ref eA), (.int iA), .null] :: oI b247 [lA, 0, 0] :: oK b245 [(msk (bt lA hA)), 0, 0] :: oI b243 [0, 0, 0] :: oI b241 [0, 0, 0] :: oI b239 [iA, 0, 0] :: oY a [(.ref b239), (.ref b241), (.ref b243), (.ref b245), (.ref b247), (.int 0)] :: oV x2 [.null, .null, (.ref eC), (.int iC), .null] :: oD eC [(.int 0), (.int lC), (.int hC)] :: F) := (V272_.bring 12 rfl)
  obtain ⟨cq273, kq273, q273a, q273b, q273c⟩ := isOf hZ e272 (V273_.exa 0 rfl)
  obtain ⟨_, _, ⟨T273, L273, k273, n273⟩, -, X273, ⟨Lc273, hQ273, l273, y273, z273⟩, st273⟩ := X272.virtualBack hx (y := (⟨"com/example/inya/inya/Domain", "size", "()J"⟩ : MethodName)) (z := (⟨"com/example/inya/inya/Domain", "size", "()J"⟩ : MethodName)) hown (mvT hZ (ow hw 160 rfl)) (mvT hZ (ow hw 161 rfl)) (notFace_of_selects (args := #[]) (mvT hZ (ow hw 163 rfl))) (mvT hZ (ow hw 163 rfl)) (mvT hZ (ow hw 162 rfl)) (by decide) (backOf (W := 0) (rm_dsz l Z a0 hw [] eB lB hB h268 n0 _ Z268  V273_) hZ (ow hw 164 rfl) (ow hw 40 rfl) (by decide) (by decide)) q273a q273c (g := (mkF m 78 #[rv a, rv ls, iv 3, iv 0, .val (.int ((0 : Int32) + (bt lA hA))), iv 1, rv x1, .val (.long (((hA.toInt64) - (lA.toInt64)) + (1 : Int64))), sv, iv (bt lA hA)] [(.ref eB)])) rfl (by rw [hml]; rfl) (Steps.refl _) (argsL := []) (rest := []) (lenOf pd_23 rfl) rfl (by show 2 * 0 + _ ≤ _; exact Nat.le_of_eq rfl) (hb hby d77m1_78) (fun _ _ => ⟨rfl, e272, nb rfl, nb rfl⟩)
  dsimp only [Pt.U, Pt.locs, Pt.cells, Pt.slots] at X273 l273 y273 z273 st273 hQ273
  rw [l273, y273, z273] at X273
  obtain ⟨rfl, rfl, e273⟩ := hQ273
  have N273 := Fr.app N272 (Fr.nil n0)
  refine OGets.after st273 ?_
  refine og (fun _ => XS.lstore X273.here hx rfl (hb hby d77m1_81) rfl (l' := #[rv a, rv ls, iv 3, iv 0, .val (.int ((0 : Int32) + (bt lA hA))), iv 1, rv x1, .val (.long (((hB.toInt64) - (lB.toInt64)) + (1 : Int64))), sv, iv (bt lA hA)]) rfl) ?_
  refine og (fun _ => XS.bipush X273.here hx rfl (hb hby d77m1_83)) ?_
  refine og (fun _ => XS.lload X273.here hx rfl (hb hby d77m1_85) rfl) ?_
  refine og (fun _ => XS.lconst X273.here hx rfl (hb hby d77m1_87)) ?_
  refine og (fun _ => XS.lsub X273.here hx rfl (hb hby d77m1_88) rfl) ?_
  show OGets p e below _ (T273.setTop (mkF m 89 #[rv a, rv ls, iv 3, iv 0, .val (.int ((0 : Int32) + (bt lA hA))), iv 1, rv x1, .val (.long (((hB.toInt64) - (lB.toInt64)) + (1 : Int64))), sv, iv (bt lA hA)] [(.long ((((hB.toInt64) - (lB.toInt64)) + (1 : Int64)) - (1 : Int64))), (.int 64)]))
  obtain ⟨_, _, ⟨T274, L274, k274, n274⟩, -, X274, ⟨Lc274, hQ274, l274, y274, z274⟩, st274⟩ := Jvm.LawKit.callS X273 hx (y := (⟨"java/lang/Long", "numberOfLeadingZeros", "(J)I"⟩ : MethodName)) hown (mvT hZ (ow hw 165 rfl)) (mvT hZ (ow hw 166 rfl)) (mvT hZ (ow hw 167 rfl)) (mvT hZ (ow hw 168 rfl)) (by decide) (backOf (W := 1) (rm_nl l Z a0 hw [] ((((hB.toInt64) - (lB.toInt64)) + (1 : Int64)) - (1 : Int64)) h268 n0  Z268 ) hZ (ow hw 168 rfl) (ow hw 167 rfl) (by decide) (by decide)) (g := (mkF m 89 #[rv a, rv ls, iv 3, iv 0, .val (.int ((0 : Int32) + (bt lA hA))), iv 1, rv x1, .val (.long (((hB.toInt64) - (lB.toInt64)) + (1 : Int64))), sv, iv (bt lA hA)] [(.long ((((hB.toInt64) - (lB.toInt64)) + (1 : Int64)) - (1 : Int64))), (.int 64)])) rfl (by rw [hml]; rfl) (argsL := [(.long ((((hB.toInt64) - (lB.toInt64)) + (1 : Int64)) - (1 : Int64)))]) (rest := [(.int 64)]) (lenOf pd_24 rfl) rfl (by show 2 * 0 + _ ≤ _; exact Nat.le_of_eq rfl) (hb hby d77m1_89) (fun _ _ => ⟨rfl, e273, nb rfl, nb rfl⟩)
  dsimp only [Pt.U, Pt.locs, Pt.cells, Pt.slots] at X274 l274 y274 z274 st274 hQ274
  rw [l274, y274, z274] at X274
  obtain ⟨rfl, rfl, e274⟩ := hQ274
  have N274 := Fr.app N273 (Fr.nil n0)
  refine og st274 ?_
  refine og (fun _ => XS.isub X274.here hx rfl (hb hby d77m1_92) rfl) ?_
  show OGets p e below _ (T274.setTop (mkF m 93 #[rv a, rv ls, iv 3, iv 0, .val (.int ((0 : Int32) + (bt lA hA))), iv 1, rv x1, .val (.long (((hB.toInt64) - (lB.toInt64)) + (1 : Int64))), sv, iv (bt lA hA)] [(.int (bt lB hB))]))
  refine og (fun _ => XS.istore X274.here hx rfl (hb hby d77m1_93) rfl (l' := #[rv a, rv ls, iv 3, iv 0, .val (.int ((0 : Int32) + (bt lA hA))), iv 1, rv x1, .val (.long (((hB.toInt64) - (lB.toInt64)) + (1 : Int64))), sv, iv (bt lB hB)]) rfl) ?_
  refine og (fun _ => XS.iload X274.here hx rfl (hb hby d77m1_95) rfl) ?_
  refine og (fun _ => XS.iload X274.here hx rfl (hb hby d77m1_97) rfl) ?_
  refine og (fun _ => XS.iadd X274.here hx rfl (hb hby d77m1_99) rfl) ?_
  refine og (fun _ => XS.bipush X274.here hx rfl (hb hby d77m1_100)) ?_
  refine og (fun _ => XS.icmpYes X274.here hx rfl (pc0 := 102) (pc' := 111) rfl (hb hby d77m1_102) rfl (flt (hb1 : ¬ ((64 : Int32) < (((0 : Int32) + (bt lA hA)) + (bt lB hB))))).2.2.2 (by decide) (by decide)) ?_
  show OGets p e below _ (T274.setTop (mkF m 111 #[rv a, rv ls, iv 3, iv 0, .val (.int ((0 : Int32) + (bt lA hA))), iv 1, rv x1, .val (.long (((hB.toInt64) - (lB.toInt64)) + (1 : Int64))), sv, iv (bt lB hB)] []))
  refine og (fun _ => XS.aloadN X274.here hx rfl (hb hby d77m1_111) rfl rfl) ?_
  obtain ⟨T276, X276, e276, st276⟩ := getF X274 hx hZ hown (host := "") (Or.inl (ow hw 121 rfl)) Via.refl e274 (V273_.fld 11 rfl 0 rfl rfl) (g := (mkF m 112 #[rv a, rv ls, iv 3, iv 0, .val (.int ((0 : Int32) + (bt lA hA))), iv 1, rv x1, .val (.long (((hB.toInt64) - (lB.toInt64)) + (1 : Int64))), sv, iv (bt lB hB)] [(.ref a)])) rfl rfl (hb hby d77m1_112)
  refine og st276 ?_
  refine og (fun _ => XS.iload X276.here hx rfl (hb hby d77m1_115) rfl) ?_
  refine og (fun _ => XS.aload X276.here hx rfl (hb hby d77m1_117) rfl rfl) ?_
  have V277_ : OView Z _ h268 (oV x1 [.null, .null, (.ref eB), (.int iB), .null] :: oD eB [(.int 0), (.int lB), (.int hB)] :: oL ls [(.int 3), (.ref b), (.int 3)] :: oO3 b x0 x1 x2 :: oD eA [(.int 0), (.int lA), (.int hA)] :: oV x0 [.null, .null, (.ref eA), (.int iA), .null] :: oI b247 [lA, 0, 0] :: oK b245 [(msk (bt lA hA)), 0, 0] :: oI b243 [0, 0, 0] :: oI b241 [0, 0, 0] :: oI b239 [iA, 0, 0] :: oY a [(.ref b239), (.ref b241), (.ref b243), (.ref b245), (.ref b247), (.int 0)] :: oV x2 [.null, .null, (.ref eC), (.int iC), .null] :: oD eC [(.int 0), (.int lC), (.int hC)] :: F) := (V273_.bring 1 rfl)
  obtain ⟨cq277, kq277, q277a, q277b, q277c⟩ := isOf hZ e276 (V277_.exa 0 rfl)
  obtain ⟨_, _, ⟨T277, L277, k277, n277⟩, -, X277, ⟨Lc277, hQ277, l277, y277, z277⟩, st277⟩ := X276.virtualBack hx (y := (⟨"com/example/inya/inya/Variable", "index", "()I"⟩ : MethodName)) (z := (⟨"com/example/inya/inya/Variable", "index", "()I"⟩ : MethodName)) hown (mvT hZ (ow hw 174 rfl)) (mvT hZ (ow hw 175 rfl)) (notFace_of_selects (args := #[]) (mvT hZ (ow hw 177 rfl))) (mvT hZ (ow hw 177 rfl)) (mvT hZ (ow hw 176 rfl)) (by decide) (backOf (W := 2) (rm_vix l Z a0 hw [] x1 eB iB h268 n0 _ Z268  V277_) hZ (ow hw 178 rfl) (ow hw 37 rfl) (by decide) (by decide)) q277a q277c (g := (mkF m 119 #[rv a, rv ls, iv 3, iv 0, .val (.int ((0 : Int32) + (bt lA hA))), iv 1, rv x1, .val (.long (((hB.toInt64) - (lB.toInt64)) + (1 : Int64))), sv, iv (bt lB hB)] [(.ref x1), (.int 1), (.ref b239)])) rfl (by rw [hml]; rfl) (Steps.refl _) (argsL := []) (rest := [(.int 1), (.ref b239)]) (lenOf pd_21 rfl) rfl (by show 2 * 0 + _ ≤ _; exact Nat.le_of_eq rfl) (hb hby d77m1_119) (fun _ _ => ⟨rfl, e276, nb rfl, nb rfl⟩)
  dsimp only [Pt.U, Pt.locs, Pt.cells, Pt.slots] at X277 l277 y277 z277 st277 hQ277
  rw [l277, y277, z277] at X277
  obtain ⟨rfl, rfl, e277⟩ := hQ277
  have N277 := Fr.app N274 (Fr.nil n0)
  refine OGets.after st277 ?_
  obtain ⟨cl278, Ar278, S278⟩ := V277_.arr 10 rfl
  obtain ⟨T278, h278, X278, e278, W278', st278⟩ := stI X277 hx hZ e277 Ar278 (j := (1 : Int32)) (own_inb S278 1 (by decide) (nb rfl)) (g := (mkF m 122 #[rv a, rv ls, iv 3, iv 0, .val (.int ((0 : Int32) + (bt lA hA))), iv 1, rv x1, .val (.long (((hB.toInt64) - (lB.toInt64)) + (1 : Int64))), sv, iv (bt lB hB)] [(.int iB), (.int 1), (.ref b239)])) rfl rfl (hb hby d77m1_122)
  have W278 := own_wr (vs := []) 1 (by decide) W278'
  have V278 : OView Z n0 h278 (oV x1 [.null, .null, (.ref eB), (.int iB), .null] :: oD eB [(.int 0), (.int lB), (.int hB)] :: oL ls [(.int 3), (.ref b), (.int 3)] :: oO3 b x0 x1 x2 :: oD eA [(.int 0), (.int lA), (.int hA)] :: oV x0 [.null, .null, (.ref eA), (.int iA), .null] :: oI b247 [lA, 0, 0] :: oK b245 [(msk (bt lA hA)), 0, 0] :: oI b243 [0, 0, 0] :: oI b241 [0, 0, 0] :: oI b239 [iA, iB, 0] :: oY a [(.ref b239), (.ref b241), (.ref b243), (.ref b245), (.ref b247), (.int 0)] :: oV x2 [.null, .null, (.ref eC), (.int iC), .null] :: oD eC [(.int 0), (.int lC), (.int hC)] :: F) := V277_.putA 10 rfl W278
  have N278 := Fr.snoc X278 N277 (V277_.old 10 rfl)
  have Z278 : n0 ≤ h278.size := by rw [W278.size]; exact Z268
  refine og st278 ?_
  refine og (fun _ => XS.aloadN X278.here hx rfl (hb hby d77m1_123) rfl rfl) ?_
  obtain ⟨T279, X279, e279, st279⟩ := getF X278 hx hZ hown (host := "") (Or.inl (ow hw 123 rfl)) Via.refl e278 (V278.fld 11 rfl 1 rfl rfl) (g := (mkF m 124 #[rv a, rv ls, iv 3, iv 0, .val (.int ((0 : Int32) + (bt lA hA))), iv 1, rv x1, .val (.long (((hB.toInt64) - (lB.toInt64)) + (1 : Int64))), sv, iv (bt lB hB)] [(.ref a)])) rfl rfl (hb hby d77m1_124)
  refine og st279 ?_
  refine og (fun _ => XS.iload X279.here hx rfl (hb hby d77m1_127) rfl) ?_
  refine og (fun _ => XS.iloadN X279.here hx rfl (hb hby d77m1_129) rfl) ?_
  obtain ⟨cl280, Ar280, S280⟩ := V278.arr 9 rfl
  obtain ⟨T280, h280, X280, e280, W280', st280⟩ := stI X279 hx hZ e279 Ar280 (j := (1 : Int32)) (own_inb S280 1 (by decide) (nb rfl)) (g := (mkF m 130 #[rv a, rv ls, iv 3, iv 0, .val (.int ((0 : Int32) + (bt lA hA))), iv 1, rv x1, .val (.long (((hB.toInt64) - (lB.toInt64)) + (1 : Int64))), sv, iv (bt lB hB)] [(.int 0), (.int 1), (.ref b241)])) rfl rfl (hb hby d77m1_130)
  have W280 := own_wr (vs := []) 1 (by decide) W280'
  have V280 : OView Z n0 h280 (oV x1 [.null, .null, (.ref eB), (.int iB), .null] :: oD eB [(.int 0), (.int lB), (.int hB)] :: oL ls [(.int 3), (.ref b), (.int 3)] :: oO3 b x0 x1 x2 :: oD eA [(.int 0), (.int lA), (.int hA)] :: oV x0 [.null, .null, (.ref eA), (.int iA), .null] :: oI b247 [lA, 0, 0] :: oK b245 [(msk (bt lA hA)), 0, 0] :: oI b243 [0, 0, 0] :: oI b241 [0, 0, 0] :: oI b239 [iA, iB, 0] :: oY a [(.ref b239), (.ref b241), (.ref b243), (.ref b245), (.ref b247), (.int 0)] :: oV x2 [.null, .null, (.ref eC), (.int iC), .null] :: oD eC [(.int 0), (.int lC), (.int hC)] :: F) := V278.putA 9 rfl W280
  have N280 := Fr.snoc X280 N278 (V278.old 9 rfl)
  have Z280 : n0 ≤ h280.size := by rw [W280.size]; exact Z278
  refine og st280 ?_
  refine og (fun _ => XS.aloadN X280.here hx rfl (hb hby d77m1_131) rfl rfl) ?_
  obtain ⟨T281, X281, e281, st281⟩ := getF X280 hx hZ hown (host := "") (Or.inl (ow hw 125 rfl)) Via.refl e280 (V280.fld 11 rfl 2 rfl rfl) (g := (mkF m 132 #[rv a, rv ls, iv 3, iv 0, .val (.int ((0 : Int32) + (bt lA hA))), iv 1, rv x1, .val (.long (((hB.toInt64) - (lB.toInt64)) + (1 : Int64))), sv, iv (bt lB hB)] [(.ref a)])) rfl rfl (hb hby d77m1_132)
  refine og st281 ?_
  refine og (fun _ => XS.iload X281.here hx rfl (hb hby d77m1_135) rfl) ?_
  refine og (fun _ => XS.iload X281.here hx rfl (hb hby d77m1_137) rfl) ?_
  obtain ⟨cl282, Ar282, S282⟩ := V280.arr 8 rfl
  obtain ⟨T282, h282, X282, e282, W282', st282⟩ := stI X281 hx hZ e281 Ar282 (j := (1 : Int32)) (own_inb S282 1 (by decide) (nb rfl)) (g := (mkF m 139 #[rv a, rv ls, iv 3, iv 0, .val (.int ((0 : Int32) + (bt lA hA))), iv 1, rv x1, .val (.long (((hB.toInt64) - (lB.toInt64)) + (1 : Int64))), sv, iv (bt lB hB)] [(.int ((0 : Int32) + (bt lA hA))), (.int 1), (.ref b243)])) rfl rfl (hb hby d77m1_139)
  have W282 := own_wr (vs := []) 1 (by decide) W282'
  have V282 : OView Z n0 h282 (oV x1 [.null, .null, (.ref eB), (.int iB), .null] :: oD eB [(.int 0), (.int lB), (.int hB)] :: oL ls [(.int 3), (.ref b), (.int 3)] :: oO3 b x0 x1 x2 :: oD eA [(.int 0), (.int lA), (.int hA)] :: oV x0 [.null, .null, (.ref eA), (.int iA), .null] :: oI b247 [lA, 0, 0] :: oK b245 [(msk (bt lA hA)), 0, 0] :: oI b243 [0, ((0 : Int32) + (bt lA hA)), 0] :: oI b241 [0, 0, 0] :: oI b239 [iA, iB, 0] :: oY a [(.ref b239), (.ref b241), (.ref b243), (.ref b245), (.ref b247), (.int 0)] :: oV x2 [.null, .null, (.ref eC), (.int iC), .null] :: oD eC [(.int 0), (.int lC), (.int hC)] :: F) := V280.putA 8 rfl W282
  have N282 := Fr.snoc X282 N280 (V280.old 8 rfl)
  have Z282 : n0 ≤ h282.size := by rw [W282.size]; exact Z280
  refine og st282 ?_
  refine og (fun _ => XS.aloadN X282.here hx rfl (hb hby d77m1_140) rfl rfl) ?_
  obtain ⟨T283, X283, e283, st283⟩ := getF X282 hx hZ hown (host := "") (Or.inl (ow hw 128 rfl)) Via.refl e282 (V282.fld 11 rfl 3 rfl rfl) (g := (mkF m 141 #[rv a, rv ls, iv 3, iv 0, .val (.int ((0 : Int32) + (bt lA hA))), iv 1, rv x1, .val (.long (((hB.toInt64) - (lB.toInt64)) + (1 : Int64))), sv, iv (bt lB hB)] [(.ref a)])) rfl rfl (hb hby d77m1_141)
  refine og st283 ?_
  refine og (fun _ => XS.iload X283.here hx rfl (hb hby d77m1_144) rfl) ?_
  refine og (fun _ => XS.lconst X283.here hx rfl (hb hby d77m1_146)) ?_
  refine og (fun _ => XS.iload X283.here hx rfl (hb hby d77m1_147) rfl) ?_
  refine og (fun _ => XS.lshl X283.here hx rfl (hb hby d77m1_149) rfl) ?_
  refine og (fun _ => XS.lconst X283.here hx rfl (hb hby d77m1_150)) ?_
  show OGets p e below _ (T283.setTop (mkF m 151 #[rv a, rv ls, iv 3, iv 0, .val (.int ((0 : Int32) + (bt lA hA))), iv 1, rv x1, .val (.long (((hB.toInt64) - (lB.toInt64)) + (1 : Int64))), sv, iv (bt lB hB)] [(.long (1 : Int64)), (.long ((1 : Int64) <<< ((bt lB hB) &&& 0x3f).toInt64)), (.int 1), (.ref b245)]))
  refine og (fun _ => XS.lsub X283.here hx rfl (hb hby d77m1_151) rfl) ?_
  show OGets p e below _ (T283.setTop (mkF m 152 #[rv a, rv ls, iv 3, iv 0, .val (.int ((0 : Int32) + (bt lA hA))), iv 1, rv x1, .val (.long (((hB.toInt64) - (lB.toInt64)) + (1 : Int64))), sv, iv (bt lB hB)] [(.long (msk (bt lB hB))), (.int 1), (.ref b245)]))
  obtain ⟨cl284, Ar284, S284⟩ := V282.arr 7 rfl
  obtain ⟨T284, h284, X284, e284, W284', st284⟩ := stJ X283 hx hZ e283 Ar284 (j := (1 : Int32)) (own_inb S284 1 (by decide) (nb rfl)) (g := (mkF m 152 #[rv a, rv ls, iv 3, iv 0, .val (.int ((0 : Int32) + (bt lA hA))), iv 1, rv x1, .val (.long (((hB.toInt64) - (lB.toInt64)) + (1 : Int64))), sv, iv (bt lB hB)] [(.long (msk (bt lB hB))), (.int 1), (.ref b245)])) rfl rfl (hb hby d77m1_152)
  have W284 := own_wr (vs := []) 1 (by decide) W284'
  have V284 : OView Z n0 h284 (oV x1 [.null, .null, (.ref eB), (.int iB), .null] :: oD eB [(.int 0), (.int lB), (.int hB)] :: oL ls [(.int 3), (.ref b), (.int 3)] :: oO3 b x0 x1 x2 :: oD eA [(.int 0), (.int lA), (.int hA)] :: oV x0 [.null, .null, (.ref eA), (.int iA), .null] :: oI b247 [lA, 0, 0] :: oK b245 [(msk (bt lA hA)), (msk (bt lB hB)), 0] :: oI b243 [0, ((0 : Int32) + (bt lA hA)), 0] :: oI b241 [0, 0, 0] :: oI b239 [iA, iB, 0] :: oY a [(.ref b239), (.ref b241), (.ref b243), (.ref b245), (.ref b247), (.int 0)] :: oV x2 [.null, .null, (.ref eC), (.int iC), .null] :: oD eC [(.int 0), (.int lC), (.int hC)] :: F) := V282.putA 7 rfl W284
  have N284 := Fr.snoc X284 N282 (V282.old 7 rfl)
  have Z284 : n0 ≤ h284.size := by rw [W284.size]; exact Z282
  refine og st284 ?_
  refine og (fun _ => XS.aloadN X284.here hx rfl (hb hby d77m1_153) rfl rfl) ?_
  obtain ⟨T285, X285, e285, st285⟩ := getF X284 hx hZ hown (host := "") (Or.inl (ow hw 130 rfl)) Via.refl e284 (V284.fld 11 rfl 4 rfl rfl) (g := (mkF m 154 #[rv a, rv ls, iv 3, iv 0, .val (.int ((0 : Int32) + (bt lA hA))), iv 1, rv x1, .val (.long (((hB.toInt64) - (lB.toInt64)) + (1 : Int64))), sv, iv (bt lB hB)] [(.ref a)])) rfl rfl (hb hby d77m1_154)
  refine og st285 ?_
  refine og (fun _ => XS.iload X285.here hx rfl (hb hby d77m1_157) rfl) ?_
  refine og (fun _ => XS.aload X285.here hx rfl (hb hby d77m1_159) rfl rfl) ?_
  obtain ⟨cq286, kq286, q286a, q286b, q286c⟩ := isOf hZ e285 (V284.exa 0 rfl)
  obtain ⟨_, _, ⟨T286, L286, k286, n286⟩, -, X286, ⟨Lc286, hQ286, l286, y286, z286⟩, st286⟩ := X285.virtualBack hx (y := (⟨"com/example/inya/inya/Variable", "domain", "()Lcom/example/inya/inya/Domain;"⟩ : MethodName)) (z := (⟨"com/example/inya/inya/Variable", "domain", "()Lcom/example/inya/inya/Domain;"⟩ : MethodName)) hown (mvT hZ (ow hw 155 rfl)) (mvT hZ (ow hw 156 rfl)) (notFace_of_selects (args := #[]) (mvT hZ (ow hw 158 rfl))) (mvT hZ (ow hw 158 rfl)) (mvT hZ (ow hw 157 rfl)) (by decide) (backOf (W := 2) (rm_vdo l Z a0 hw [] x1 eB iB h284 n0 _ Z284  V284) hZ (ow hw 159 rfl) (ow hw 37 rfl) (by decide) (by decide)) q286a q286c (g := (mkF m 161 #[rv a, rv ls, iv 3, iv 0, .val (.int ((0 : Int32) + (bt lA hA))), iv 1, rv x1, .val (.long (((hB.toInt64) - (lB.toInt64)) + (1 : Int64))), sv, iv (bt lB hB)] [(.ref x1), (.int 1), (.ref b247)])) rfl (by rw [hml]; rfl) (Steps.refl _) (argsL := []) (rest := [(.int 1), (.ref b247)]) (lenOf pd_22 rfl) rfl (by show 2 * 0 + _ ≤ _; exact Nat.le_of_eq rfl) (hb hby d77m1_161) (fun _ _ => ⟨rfl, e285, nb rfl, nb rfl⟩)
  dsimp only [Pt.U, Pt.locs, Pt.cells, Pt.slots] at X286 l286 y286 z286 st286 hQ286
  rw [l286, y286, z286] at X286
  obtain ⟨rfl, rfl, e286⟩ := hQ286
  have N286 := Fr.app N284 (Fr.nil n0)
  refine OGets.after st286 ?_
  have V287_ : OView Z _ h284 (oD eB [(.int 0), (.int lB), (.int hB)] :: oV x1 [.null, .null, (.ref eB), (.int iB), .null] :: oL ls [(.int 3), (.ref b), (.int 3)] :: oO3 b x0 x1 x2 :: oD eA [(.int 0), (.int lA), (.int hA)] :: oV x0 [.null, .null, (.ref eA), (.int iA), .null] :: oI b247 [lA, 0, 0] :: oK b245 [(msk (bt lA hA)), (msk (bt lB hB)), 0] :: oI b243 [0, ((0 : Int32) + (bt lA hA)), 0] :: oI b241 [0, 0, 0] :: oI b239 [iA, iB, 0] :: oY a [(.ref b239), (.ref b241), (.ref b243), (.ref b245), (.ref b247), (.int 0)] :: oV x2 [.null, .null, (.ref eC), (.int iC), .null] :: oD eC [(.int 0), (.int lC), (.int hC)] :: F) := (V284.bring 1 rfl)
  obtain ⟨cq287, kq287, q287a, q287b, q287c⟩ := isOf hZ e286 (V287_.exa 0 rfl)
  obtain ⟨_, _, ⟨T287, L287, k287, n287⟩, -, X287, ⟨Lc287, hQ287, l287, y287, z287⟩, st287⟩ := X286.virtualBack hx (y := (⟨"com/example/inya/inya/Domain", "lo", "()I"⟩ : MethodName)) (z := (⟨"com/example/inya/inya/Domain", "lo", "()I"⟩ : MethodName)) hown (mvT hZ (ow hw 179 rfl)) (mvT hZ (ow hw 180 rfl)) (notFace_of_selects (args := #[]) (mvT hZ (ow hw 182 rfl))) (mvT hZ (ow hw 182 rfl)) (mvT hZ (ow hw 181 rfl)) (by decide) (backOf (W := 2) (rm_dlo l Z a0 hw [] eB lB hB h284 n0 _ Z284  V287_) hZ (ow hw 183 rfl) (ow hw 40 rfl) (by decide) (by decide)) q287a q287c (g := (mkF m 164 #[rv a, rv ls, iv 3, iv 0, .val (.int ((0 : Int32) + (bt lA hA))), iv 1, rv x1, .val (.long (((hB.toInt64) - (lB.toInt64)) + (1 : Int64))), sv, iv (bt lB hB)] [(.ref eB), (.int 1), (.ref b247)])) rfl (by rw [hml]; rfl) (Steps.refl _) (argsL := []) (rest := [(.int 1), (.ref b247)]) (lenOf pd_21 rfl) rfl (by show 2 * 0 + _ ≤ _; exact Nat.le_of_eq rfl) (hb hby d77m1_164) (fun _ _ => ⟨rfl, e286, nb rfl, nb rfl⟩)
  dsimp only [Pt.U, Pt.locs, Pt.cells, Pt.slots] at X287 l287 y287 z287 st287 hQ287
  rw [l287, y287, z287] at X287
  obtain ⟨rfl, rfl, e287⟩ := hQ287
  have N287 := Fr.app N286 (Fr.nil n0)
  refine OGets.after st287 ?_
  obtain ⟨cl288, Ar288, S288⟩ := V287_.arr 6 rfl
  obtain ⟨T288, h288, X288, e288, W288', st288⟩ := stI X287 hx hZ e287 Ar288 (j := (1 : Int32)) (own_inb S288 1 (by decide) (nb rfl)) (g := (mkF m 167 #[rv a, rv ls, iv 3, iv 0, .val (.int ((0 : Int32) + (bt lA hA))), iv 1, rv x1, .val (.long (((hB.toInt64) - (lB.toInt64)) + (1 : Int64))), sv, iv (bt lB hB)] [(.int lB), (.int 1), (.ref b247)])) rfl rfl (hb hby d77m1_167)
  have W288 := own_wr (vs := []) 1 (by decide) W288'
  have V288 : OView Z n0 h288 (oD eB [(.int 0), (.int lB), (.int hB)] :: oV x1 [.null, .null, (.ref eB), (.int iB), .null] :: oL ls [(.int 3), (.ref b), (.int 3)] :: oO3 b x0 x1 x2 :: oD eA [(.int 0), (.int lA), (.int hA)] :: oV x0 [.null, .null, (.ref eA), (.int iA), .null] :: oI b247 [lA, lB, 0] :: oK b245 [(msk (bt lA hA)), (msk (bt lB hB)), 0] :: oI b243 [0, ((0 : Int32) + (bt lA hA)), 0] :: oI b241 [0, 0, 0] :: oI b239 [iA, iB, 0] :: oY a [(.ref b239), (.ref b241), (.ref b243), (.ref b245), (.ref b247), (.int 0)] :: oV x2 [.null, .null, (.ref eC), (.int iC), .null] :: oD eC [(.int 0), (.int lC), (.int hC)] :: F) := V287_.putA 6 rfl W288
  have N288 := Fr.snoc X288 N287 (V287_.old 6 rfl)
  have Z288 : n0 ≤ h288.size := by rw [W288.size]; exact Z284
  refine og st288 ?_
  refine og (fun _ => XS.iload X288.here hx rfl (hb hby d77m1_168) rfl) ?_
  refine og (fun _ => XS.iload X288.here hx rfl (hb hby d77m1_170) rfl) ?_
  refine og (fun _ => XS.iadd X288.here hx rfl (hb hby d77m1_172) rfl) ?_
  refine og (fun _ => XS.istore X288.here hx rfl (hb hby d77m1_173) rfl (l' := #[rv a, rv ls, iv 3, iv 0, .val (.int (((0 : Int32) + (bt lA hA)) + (bt lB hB))), iv 1, rv x1, .val (.long (((hB.toInt64) - (lB.toInt64)) + (1 : Int64))), sv, iv (bt lB hB)]) rfl) ?_
  refine og (fun _ => XS.iinc X288.here hx rfl (hb hby d77m1_175) rfl (l' := #[rv a, rv ls, iv 3, iv 0, .val (.int (((0 : Int32) + (bt lA hA)) + (bt lB hB))), iv 2, rv x1, .val (.long (((hB.toInt64) - (lB.toInt64)) + (1 : Int64))), sv, iv (bt lB hB)]) rfl) ?_
  show OGets p e below _ (T288.setTop (mkF m 178 #[rv a, rv ls, iv 3, iv 0, .val (.int (((0 : Int32) + (bt lA hA)) + (bt lB hB))), iv 2, rv x1, .val (.long (((hB.toInt64) - (lB.toInt64)) + (1 : Int64))), sv, iv (bt lB hB)] []))
  refine og (fun _ => XS.goto X288.here hx rfl (pc0 := 178) (pc' := 54) rfl (hb hby d77m1_178) (by decide) (by decide)) ?_
  refine og (fun _ => XS.iload X288.here hx rfl (hb hby d77m1_54) rfl) ?_
  refine og (fun _ => XS.iloadN X288.here hx rfl (hb hby d77m1_56) rfl) ?_
  refine og (fun _ => XS.icmpNo X288.here hx rfl (hb hby d77m1_57) rfl (tlt (by decide : (2 : Int32) < (3 : Int32))).2.1) ?_
  refine og (fun _ => XS.aloadN X288.here hx rfl (hb hby d77m1_60) rfl rfl) ?_
  refine og (fun _ => XS.iload X288.here hx rfl (hb hby d77m1_61) rfl) ?_
  show OGets p e below _ (T288.setTop (mkF m 63 #[rv a, rv ls, iv 3, iv 0, .val (.int (((0 : Int32) + (bt lA hA)) + (bt lB hB))), iv 2, rv x1, .val (.long (((hB.toInt64) - (lB.toInt64)) + (1 : Int64))), sv, iv (bt lB hB)] [(.int 2), (.ref ls)]))
  have V290_ : OView Z _ h288 (oL ls [(.int 3), (.ref b), (.int 3)] :: oO3 b x0 x1 x2 :: oD eB [(.int 0), (.int lB), (.int hB)] :: oV x1 [.null, .null, (.ref eB), (.int iB), .null] :: oD eA [(.int 0), (.int lA), (.int hA)] :: oV x0 [.null, .null, (.ref eA), (.int iA), .null] :: oI b247 [lA, lB, 0] :: oK b245 [(msk (bt lA hA)), (msk (bt lB hB)), 0] :: oI b243 [0, ((0 : Int32) + (bt lA hA)), 0] :: oI b241 [0, 0, 0] :: oI b239 [iA, iB, 0] :: oY a [(.ref b239), (.ref b241), (.ref b243), (.ref b245), (.ref b247), (.int 0)] :: oV x2 [.null, .null, (.ref eC), (.int iC), .null] :: oD eC [(.int 0), (.int lC), (.int hC)] :: F) := ((V288.bring 3 rfl).bring 3 rfl)
  obtain ⟨cq290, kq290, q290a, q290b, q290c⟩ := isOf hZ e288 (V290_.exa 0 rfl)
  obtain ⟨_, _, ⟨T290, L290, k290, n290⟩, -, X290, ⟨Lc290, hQ290, l290, y290, z290⟩, st290⟩ := X288.interfaceBack hx (xi := (⟨"java/util/List", "get", "(I)Ljava/lang/Object;"⟩ : MethodName)) (y := (⟨"java/util/ArrayList", "get", "(I)Ljava/lang/Object;"⟩ : MethodName)) hown (mvT hZ (ow hw 132 rfl)) (mvT hZ (ow hw 133 rfl)) (mvT hZ (ow hw 134 rfl)) (mvT hZ (ow hw 135 rfl)) (mvT hZ (ow hw 136 rfl)) (mvT hZ (ow hw 137 rfl)) (mvT hZ (ow hw 138 rfl)) (mvT hZ (ow hw 118 rfl)) (by decide) (backOf (W := 0) (rm_get2 l Z a0 hw [] ls b x0 x1 x2 h288 n0 _ Z288  V290_) hZ (ow hw 139 rfl) (ow hw 11 rfl) (by decide) (by decide)) q290a q290b q290c (g := (mkF m 63 #[rv a, rv ls, iv 3, iv 0, .val (.int (((0 : Int32) + (bt lA hA)) + (bt lB hB))), iv 2, rv x1, .val (.long (((hB.toInt64) - (lB.toInt64)) + (1 : Int64))), sv, iv (bt lB hB)] [(.int 2), (.ref ls)])) rfl (by rw [hml]; rfl) (Steps.refl _) (argsL := [(.int 2)]) (rest := []) (lenOf pd_19 rfl) rfl (by show 2 * 0 + _ ≤ _; exact Nat.le_of_eq rfl) (hb hby d77m1_63) (fun _ _ => ⟨rfl, e288, nb rfl, nb rfl⟩)
  dsimp only [Pt.U, Pt.locs, Pt.cells, Pt.slots] at X290 l290 y290 z290 st290 hQ290
  rw [l290, y290, z290] at X290
  obtain ⟨rfl, rfl, e290⟩ := hQ290
  have N290 := Fr.app N288 (Fr.nil n0)
  refine OGets.after st290 ?_
  obtain ⟨T291, X291, e291, st291⟩ := castY X290 hx hZ hown (ow hw 153 rfl) e290 (Ins.self (V290_.exa 12 rfl)) (g := (mkF m 68 #[rv a, rv ls, iv 3, iv 0, .val (.int (((0 : Int32) + (bt lA hA)) + (bt lB hB))), iv 2, rv x1, .val (.long (((hB.toInt64) - (lB.toInt64)) + (1 : Int64))), sv, iv (bt lB hB)] [(.ref x2)])) rfl rfl (hb hby d77m1_68)
  refine og st291 ?_
  refine og (fun _ => XS.astore X291.here hx rfl (hb hby d77m1_71) rfl rfl (l' := #[rv a, rv ls, iv 3, iv 0, .val (.int (((0 : Int32) + (bt lA hA)) + (bt lB hB))), iv 2, rv x2, .val (.long (((hB.toInt64) - (lB.toInt64)) + (1 : Int64))), sv, iv (bt lB hB)]) rfl) ?_
  refine og (fun _ => XS.aload X291.here hx rfl (hb hby d77m1_73) rfl rfl) ?_
  have V292_ : OView Z _ h288 (oV x2 [.null, .null, (.ref eC), (.int iC), .null] :: oL ls [(.int 3), (.ref b), (.int 3)] :: oO3 b x0 x1 x2 :: oD eB [(.int 0), (.int lB), (.int hB)] :: oV x1 [.null, .null, (.ref eB), (.int iB), .null] :: oD eA [(.int 0), (.int lA), (.int hA)] :: oV x0 [.null, .null, (.ref eA), (.int iA), .null] :: oI b247 [lA, lB, 0] :: oK b245 [(msk (bt lA hA)), (msk (bt lB hB)), 0] :: oI b243 [0, ((0 : Int32) + (bt lA hA)), 0] :: oI b241 [0, 0, 0] :: oI b239 [iA, iB, 0] :: oY a [(.ref b239), (.ref b241), (.ref b243), (.ref b245), (.ref b247), (.int 0)] :: oD eC [(.int 0), (.int lC), (.int hC)] :: F) := (V290_.bring 12 rfl)
  obtain ⟨cq292, kq292, q292a, q292b, q292c⟩ := isOf hZ e291 (V292_.exa 0 rfl)
  obtain ⟨_, _, ⟨T292, L292, k292, n292⟩, -, X292, ⟨Lc292, hQ292, l292, y292, z292⟩, st292⟩ := X291.virtualBack hx (y := (⟨"com/example/inya/inya/Variable", "domain", "()Lcom/example/inya/inya/Domain;"⟩ : MethodName)) (z := (⟨"com/example/inya/inya/Variable", "domain", "()Lcom/example/inya/inya/Domain;"⟩ : MethodName)) hown (mvT hZ (ow hw 155 rfl)) (mvT hZ (ow hw 156 rfl)) (notFace_of_selects (args := #[]) (mvT hZ (ow hw 158 rfl))) (mvT hZ (ow hw 158 rfl)) (mvT hZ (ow hw 157 rfl)) (by decide) (backOf (W := 0) (rm_vdo l Z a0 hw [] x2 eC iC h288 n0 _ Z288  V292_) hZ (ow hw 159 rfl) (ow hw 37 rfl) (by decide) (by decide)) q292a q292c (g := (mkF m 75 #[rv a, rv ls, iv 3, iv 0, .val (.int (((0 : Int32) + (bt lA hA)) + (bt lB hB))), iv 2, rv x2, .val (.long (((hB.toInt64) - (lB.toInt64)) + (1 : Int64))), sv, iv (bt lB hB)] [(.ref x2)])) rfl (by rw [hml]; rfl) (Steps.refl _) (argsL := []) (rest := []) (lenOf pd_22 rfl) rfl (by show 2 * 0 + _ ≤ _; exact Nat.le_of_eq rfl) (hb hby d77m1_75) (fun _ _ => ⟨rfl, e291, nb rfl, nb rfl⟩)
  dsimp only [Pt.U, Pt.locs, Pt.cells, Pt.slots] at X292 l292 y292 z292 st292 hQ292
  rw [l292, y292, z292] at X292
  obtain ⟨rfl, rfl, e292⟩ := hQ292
  have N292 := Fr.app N290 (Fr.nil n0)
  refine OGets.after st292 ?_
  have V293_ : OView Z _ h288 (oD eC [(.int 0), (.int lC), (.int hC)] :: oV x2 [.null, .null, (.ref eC), (.int iC), .null] :: oL ls [(.int 3), (.ref b), (.int 3)] :: oO3 b x0 x1 x2 :: oD eB [(.int 0), (.int lB), (.int hB)] :: oV x1 [.null, .null, (.ref eB), (.int iB), .null] :: oD eA [(.int 0), (.int lA), (.int hA)] :: oV x0 [.null, .null, (.ref eA), (.int iA), .null] :: oI b247 [lA, lB, 0] :: oK b245 [(msk (bt lA hA)), (msk (bt lB hB)), 0] :: oI b243 [0, ((0 : Int32) + (bt lA hA)), 0] :: oI b241 [0, 0, 0] :: oI b239 [iA, iB, 0] :: oY a [(.ref b239), (.ref b241), (.ref b243), (.ref b245), (.ref b247), (.int 0)] :: F) := (V292_.bring 13 rfl)
  obtain ⟨cq293, kq293, q293a, q293b, q293c⟩ := isOf hZ e292 (V293_.exa 0 rfl)
  obtain ⟨_, _, ⟨T293, L293, k293, n293⟩, -, X293, ⟨Lc293, hQ293, l293, y293, z293⟩, st293⟩ := X292.virtualBack hx (y := (⟨"com/example/inya/inya/Domain", "size", "()J"⟩ : MethodName)) (z := (⟨"com/example/inya/inya/Domain", "size", "()J"⟩ : MethodName)) hown (mvT hZ (ow hw 160 rfl)) (mvT hZ (ow hw 161 rfl)) (notFace_of_selects (args := #[]) (mvT hZ (ow hw 163 rfl))) (mvT hZ (ow hw 163 rfl)) (mvT hZ (ow hw 162 rfl)) (by decide) (backOf (W := 0) (rm_dsz l Z a0 hw [] eC lC hC h288 n0 _ Z288  V293_) hZ (ow hw 164 rfl) (ow hw 40 rfl) (by decide) (by decide)) q293a q293c (g := (mkF m 78 #[rv a, rv ls, iv 3, iv 0, .val (.int (((0 : Int32) + (bt lA hA)) + (bt lB hB))), iv 2, rv x2, .val (.long (((hB.toInt64) - (lB.toInt64)) + (1 : Int64))), sv, iv (bt lB hB)] [(.ref eC)])) rfl (by rw [hml]; rfl) (Steps.refl _) (argsL := []) (rest := []) (lenOf pd_23 rfl) rfl (by show 2 * 0 + _ ≤ _; exact Nat.le_of_eq rfl) (hb hby d77m1_78) (fun _ _ => ⟨rfl, e292, nb rfl, nb rfl⟩)
  dsimp only [Pt.U, Pt.locs, Pt.cells, Pt.slots] at X293 l293 y293 z293 st293 hQ293
  rw [l293, y293, z293] at X293
  obtain ⟨rfl, rfl, e293⟩ := hQ293
  have N293 := Fr.app N292 (Fr.nil n0)
  refine OGets.after st293 ?_
  refine og (fun _ => XS.lstore X293.here hx rfl (hb hby d77m1_81) rfl (l' := #[rv a, rv ls, iv 3, iv 0, .val (.int (((0 : Int32) + (bt lA hA)) + (bt lB hB))), iv 2, rv x2, .val (.long (((hC.toInt64) - (lC.toInt64)) + (1 : Int64))), sv, iv (bt lB hB)]) rfl) ?_
  refine og (fun _ => XS.bipush X293.here hx rfl (hb hby d77m1_83)) ?_
  refine og (fun _ => XS.lload X293.here hx rfl (hb hby d77m1_85) rfl) ?_
  refine og (fun _ => XS.lconst X293.here hx rfl (hb hby d77m1_87)) ?_
  refine og (fun _ => XS.lsub X293.here hx rfl (hb hby d77m1_88) rfl) ?_
  show OGets p e below _ (T293.setTop (mkF m 89 #[rv a, rv ls, iv 3, iv 0, .val (.int (((0 : Int32) + (bt lA hA)) + (bt lB hB))), iv 2, rv x2, .val (.long (((hC.toInt64) - (lC.toInt64)) + (1 : Int64))), sv, iv (bt lB hB)] [(.long ((((hC.toInt64) - (lC.toInt64)) + (1 : Int64)) - (1 : Int64))), (.int 64)]))
  obtain ⟨_, _, ⟨T294, L294, k294, n294⟩, -, X294, ⟨Lc294, hQ294, l294, y294, z294⟩, st294⟩ := Jvm.LawKit.callS X293 hx (y := (⟨"java/lang/Long", "numberOfLeadingZeros", "(J)I"⟩ : MethodName)) hown (mvT hZ (ow hw 165 rfl)) (mvT hZ (ow hw 166 rfl)) (mvT hZ (ow hw 167 rfl)) (mvT hZ (ow hw 168 rfl)) (by decide) (backOf (W := 1) (rm_nl l Z a0 hw [] ((((hC.toInt64) - (lC.toInt64)) + (1 : Int64)) - (1 : Int64)) h288 n0  Z288 ) hZ (ow hw 168 rfl) (ow hw 167 rfl) (by decide) (by decide)) (g := (mkF m 89 #[rv a, rv ls, iv 3, iv 0, .val (.int (((0 : Int32) + (bt lA hA)) + (bt lB hB))), iv 2, rv x2, .val (.long (((hC.toInt64) - (lC.toInt64)) + (1 : Int64))), sv, iv (bt lB hB)] [(.long ((((hC.toInt64) - (lC.toInt64)) + (1 : Int64)) - (1 : Int64))), (.int 64)])) rfl (by rw [hml]; rfl) (argsL := [(.long ((((hC.toInt64) - (lC.toInt64)) + (1 : Int64)) - (1 : Int64)))]) (rest := [(.int 64)]) (lenOf pd_24 rfl) rfl (by show 2 * 0 + _ ≤ _; exact Nat.le_of_eq rfl) (hb hby d77m1_89) (fun _ _ => ⟨rfl, e293, nb rfl, nb rfl⟩)
  dsimp only [Pt.U, Pt.locs, Pt.cells, Pt.slots] at X294 l294 y294 z294 st294 hQ294
  rw [l294, y294, z294] at X294
  obtain ⟨rfl, rfl, e294⟩ := hQ294
  have N294 := Fr.app N293 (Fr.nil n0)
  refine og st294 ?_
  refine og (fun _ => XS.isub X294.here hx rfl (hb hby d77m1_92) rfl) ?_
  show OGets p e below _ (T294.setTop (mkF m 93 #[rv a, rv ls, iv 3, iv 0, .val (.int (((0 : Int32) + (bt lA hA)) + (bt lB hB))), iv 2, rv x2, .val (.long (((hC.toInt64) - (lC.toInt64)) + (1 : Int64))), sv, iv (bt lB hB)] [(.int (bt lC hC))]))
  refine og (fun _ => XS.istore X294.here hx rfl (hb hby d77m1_93) rfl (l' := #[rv a, rv ls, iv 3, iv 0, .val (.int (((0 : Int32) + (bt lA hA)) + (bt lB hB))), iv 2, rv x2, .val (.long (((hC.toInt64) - (lC.toInt64)) + (1 : Int64))), sv, iv (bt lC hC)]) rfl) ?_
  refine og (fun _ => XS.iload X294.here hx rfl (hb hby d77m1_95) rfl) ?_
  refine og (fun _ => XS.iload X294.here hx rfl (hb hby d77m1_97) rfl) ?_
  refine og (fun _ => XS.iadd X294.here hx rfl (hb hby d77m1_99) rfl) ?_
  refine og (fun _ => XS.bipush X294.here hx rfl (hb hby d77m1_100)) ?_
  refine og (fun _ => XS.icmpNo X294.here hx rfl (hb hby d77m1_102) rfl (tlt (hb2 : (64 : Int32) < ((((0 : Int32) + (bt lA hA)) + (bt lB hB)) + (bt lC hC)))).2.2.2) ?_
  show OGets p e below _ (T294.setTop (mkF m 105 #[rv a, rv ls, iv 3, iv 0, .val (.int (((0 : Int32) + (bt lA hA)) + (bt lB hB))), iv 2, rv x2, .val (.long (((hC.toInt64) - (lC.toInt64)) + (1 : Int64))), sv, iv (bt lC hC)] []))
  refine og (fun _ => XS.iinc X294.here hx rfl (hb hby d77m1_105) rfl (l' := #[rv a, rv ls, iv 3, iv 1, .val (.int (((0 : Int32) + (bt lA hA)) + (bt lB hB))), iv 2, rv x2, .val (.long (((hC.toInt64) - (lC.toInt64)) + (1 : Int64))), sv, iv (bt lC hC)]) rfl) ?_
  refine og (fun _ => XS.iconst X294.here hx rfl (hb hby d77m1_108)) ?_
  refine og (fun _ => XS.istore X294.here hx rfl (hb hby d77m1_109) rfl (l' := #[rv a, rv ls, iv 3, iv 1, iv 0, iv 2, rv x2, .val (.long (((hC.toInt64) - (lC.toInt64)) + (1 : Int64))), sv, iv (bt lC hC)]) rfl) ?_
  refine og (fun _ => XS.aloadN X294.here hx rfl (hb hby d77m1_111) rfl rfl) ?_
  obtain ⟨T296, X296, e296, st296⟩ := getF X294 hx hZ hown (host := "") (Or.inl (ow hw 121 rfl)) Via.refl e294 (V293_.fld 13 rfl 0 rfl rfl) (g := (mkF m 112 #[rv a, rv ls, iv 3, iv 1, iv 0, iv 2, rv x2, .val (.long (((hC.toInt64) - (lC.toInt64)) + (1 : Int64))), sv, iv (bt lC hC)] [(.ref a)])) rfl rfl (hb hby d77m1_112)
  refine og st296 ?_
  refine og (fun _ => XS.iload X296.here hx rfl (hb hby d77m1_115) rfl) ?_
  refine og (fun _ => XS.aload X296.here hx rfl (hb hby d77m1_117) rfl rfl) ?_
  have V297_ : OView Z _ h288 (oV x2 [.null, .null, (.ref eC), (.int iC), .null] :: oD eC [(.int 0), (.int lC), (.int hC)] :: oL ls [(.int 3), (.ref b), (.int 3)] :: oO3 b x0 x1 x2 :: oD eB [(.int 0), (.int lB), (.int hB)] :: oV x1 [.null, .null, (.ref eB), (.int iB), .null] :: oD eA [(.int 0), (.int lA), (.int hA)] :: oV x0 [.null, .null, (.ref eA), (.int iA), .null] :: oI b247 [lA, lB, 0] :: oK b245 [(msk (bt lA hA)), (msk (bt lB hB)), 0] :: oI b243 [0, ((0 : Int32) + (bt lA hA)), 0] :: oI b241 [0, 0, 0] :: oI b239 [iA, iB, 0] :: oY a [(.ref b239), (.ref b241), (.ref b243), (.ref b245), (.ref b247), (.int 0)] :: F) := (V293_.bring 1 rfl)
  obtain ⟨cq297, kq297, q297a, q297b, q297c⟩ := isOf hZ e296 (V297_.exa 0 rfl)
  obtain ⟨_, _, ⟨T297, L297, k297, n297⟩, -, X297, ⟨Lc297, hQ297, l297, y297, z297⟩, st297⟩ := X296.virtualBack hx (y := (⟨"com/example/inya/inya/Variable", "index", "()I"⟩ : MethodName)) (z := (⟨"com/example/inya/inya/Variable", "index", "()I"⟩ : MethodName)) hown (mvT hZ (ow hw 174 rfl)) (mvT hZ (ow hw 175 rfl)) (notFace_of_selects (args := #[]) (mvT hZ (ow hw 177 rfl))) (mvT hZ (ow hw 177 rfl)) (mvT hZ (ow hw 176 rfl)) (by decide) (backOf (W := 2) (rm_vix l Z a0 hw [] x2 eC iC h288 n0 _ Z288  V297_) hZ (ow hw 178 rfl) (ow hw 37 rfl) (by decide) (by decide)) q297a q297c (g := (mkF m 119 #[rv a, rv ls, iv 3, iv 1, iv 0, iv 2, rv x2, .val (.long (((hC.toInt64) - (lC.toInt64)) + (1 : Int64))), sv, iv (bt lC hC)] [(.ref x2), (.int 2), (.ref b239)])) rfl (by rw [hml]; rfl) (Steps.refl _) (argsL := []) (rest := [(.int 2), (.ref b239)]) (lenOf pd_21 rfl) rfl (by show 2 * 0 + _ ≤ _; exact Nat.le_of_eq rfl) (hb hby d77m1_119) (fun _ _ => ⟨rfl, e296, nb rfl, nb rfl⟩)
  dsimp only [Pt.U, Pt.locs, Pt.cells, Pt.slots] at X297 l297 y297 z297 st297 hQ297
  rw [l297, y297, z297] at X297
  obtain ⟨rfl, rfl, e297⟩ := hQ297
  have N297 := Fr.app N294 (Fr.nil n0)
  refine OGets.after st297 ?_
  obtain ⟨cl298, Ar298, S298⟩ := V297_.arr 12 rfl
  obtain ⟨T298, h298, X298, e298, W298', st298⟩ := stI X297 hx hZ e297 Ar298 (j := (2 : Int32)) (own_inb S298 2 (by decide) (nb rfl)) (g := (mkF m 122 #[rv a, rv ls, iv 3, iv 1, iv 0, iv 2, rv x2, .val (.long (((hC.toInt64) - (lC.toInt64)) + (1 : Int64))), sv, iv (bt lC hC)] [(.int iC), (.int 2), (.ref b239)])) rfl rfl (hb hby d77m1_122)
  have W298 := own_wr (vs := []) 2 (by decide) W298'
  have V298 : OView Z n0 h298 (oV x2 [.null, .null, (.ref eC), (.int iC), .null] :: oD eC [(.int 0), (.int lC), (.int hC)] :: oL ls [(.int 3), (.ref b), (.int 3)] :: oO3 b x0 x1 x2 :: oD eB [(.int 0), (.int lB), (.int hB)] :: oV x1 [.null, .null, (.ref eB), (.int iB), .null] :: oD eA [(.int 0), (.int lA), (.int hA)] :: oV x0 [.null, .null, (.ref eA), (.int iA), .null] :: oI b247 [lA, lB, 0] :: oK b245 [(msk (bt lA hA)), (msk (bt lB hB)), 0] :: oI b243 [0, ((0 : Int32) + (bt lA hA)), 0] :: oI b241 [0, 0, 0] :: oI b239 [iA, iB, iC] :: oY a [(.ref b239), (.ref b241), (.ref b243), (.ref b245), (.ref b247), (.int 0)] :: F) := V297_.putA 12 rfl W298
  have N298 := Fr.snoc X298 N297 (V297_.old 12 rfl)
  have Z298 : n0 ≤ h298.size := by rw [W298.size]; exact Z288
  refine og st298 ?_
  refine og (fun _ => XS.aloadN X298.here hx rfl (hb hby d77m1_123) rfl rfl) ?_
  obtain ⟨T299, X299, e299, st299⟩ := getF X298 hx hZ hown (host := "") (Or.inl (ow hw 123 rfl)) Via.refl e298 (V298.fld 13 rfl 1 rfl rfl) (g := (mkF m 124 #[rv a, rv ls, iv 3, iv 1, iv 0, iv 2, rv x2, .val (.long (((hC.toInt64) - (lC.toInt64)) + (1 : Int64))), sv, iv (bt lC hC)] [(.ref a)])) rfl rfl (hb hby d77m1_124)
  refine og st299 ?_
  refine og (fun _ => XS.iload X299.here hx rfl (hb hby d77m1_127) rfl) ?_
  refine og (fun _ => XS.iloadN X299.here hx rfl (hb hby d77m1_129) rfl) ?_
  obtain ⟨cl300, Ar300, S300⟩ := V298.arr 11 rfl
  obtain ⟨T300, h300, X300, e300, W300', st300⟩ := stI X299 hx hZ e299 Ar300 (j := (2 : Int32)) (own_inb S300 2 (by decide) (nb rfl)) (g := (mkF m 130 #[rv a, rv ls, iv 3, iv 1, iv 0, iv 2, rv x2, .val (.long (((hC.toInt64) - (lC.toInt64)) + (1 : Int64))), sv, iv (bt lC hC)] [(.int 1), (.int 2), (.ref b241)])) rfl rfl (hb hby d77m1_130)
  have W300 := own_wr (vs := []) 2 (by decide) W300'
  have V300 : OView Z n0 h300 (oV x2 [.null, .null, (.ref eC), (.int iC), .null] :: oD eC [(.int 0), (.int lC), (.int hC)] :: oL ls [(.int 3), (.ref b), (.int 3)] :: oO3 b x0 x1 x2 :: oD eB [(.int 0), (.int lB), (.int hB)] :: oV x1 [.null, .null, (.ref eB), (.int iB), .null] :: oD eA [(.int 0), (.int lA), (.int hA)] :: oV x0 [.null, .null, (.ref eA), (.int iA), .null] :: oI b247 [lA, lB, 0] :: oK b245 [(msk (bt lA hA)), (msk (bt lB hB)), 0] :: oI b243 [0, ((0 : Int32) + (bt lA hA)), 0] :: oI b241 [0, 0, 1] :: oI b239 [iA, iB, iC] :: oY a [(.ref b239), (.ref b241), (.ref b243), (.ref b245), (.ref b247), (.int 0)] :: F) := V298.putA 11 rfl W300
  have N300 := Fr.snoc X300 N298 (V298.old 11 rfl)
  have Z300 : n0 ≤ h300.size := by rw [W300.size]; exact Z298
  refine og st300 ?_
  refine og (fun _ => XS.aloadN X300.here hx rfl (hb hby d77m1_131) rfl rfl) ?_
  obtain ⟨T301, X301, e301, st301⟩ := getF X300 hx hZ hown (host := "") (Or.inl (ow hw 125 rfl)) Via.refl e300 (V300.fld 13 rfl 2 rfl rfl) (g := (mkF m 132 #[rv a, rv ls, iv 3, iv 1, iv 0, iv 2, rv x2, .val (.long (((hC.toInt64) - (lC.toInt64)) + (1 : Int64))), sv, iv (bt lC hC)] [(.ref a)])) rfl rfl (hb hby d77m1_132)
  refine og st301 ?_
  refine og (fun _ => XS.iload X301.here hx rfl (hb hby d77m1_135) rfl) ?_
  refine og (fun _ => XS.iload X301.here hx rfl (hb hby d77m1_137) rfl) ?_
  obtain ⟨cl302, Ar302, S302⟩ := V300.arr 10 rfl
  obtain ⟨T302, h302, X302, e302, W302', st302⟩ := stI X301 hx hZ e301 Ar302 (j := (2 : Int32)) (own_inb S302 2 (by decide) (nb rfl)) (g := (mkF m 139 #[rv a, rv ls, iv 3, iv 1, iv 0, iv 2, rv x2, .val (.long (((hC.toInt64) - (lC.toInt64)) + (1 : Int64))), sv, iv (bt lC hC)] [(.int 0), (.int 2), (.ref b243)])) rfl rfl (hb hby d77m1_139)
  have W302 := own_wr (vs := []) 2 (by decide) W302'
  have V302 : OView Z n0 h302 (oV x2 [.null, .null, (.ref eC), (.int iC), .null] :: oD eC [(.int 0), (.int lC), (.int hC)] :: oL ls [(.int 3), (.ref b), (.int 3)] :: oO3 b x0 x1 x2 :: oD eB [(.int 0), (.int lB), (.int hB)] :: oV x1 [.null, .null, (.ref eB), (.int iB), .null] :: oD eA [(.int 0), (.int lA), (.int hA)] :: oV x0 [.null, .null, (.ref eA), (.int iA), .null] :: oI b247 [lA, lB, 0] :: oK b245 [(msk (bt lA hA)), (msk (bt lB hB)), 0] :: oI b243 [0, ((0 : Int32) + (bt lA hA)), 0] :: oI b241 [0, 0, 1] :: oI b239 [iA, iB, iC] :: oY a [(.ref b239), (.ref b241), (.ref b243), (.ref b245), (.ref b247), (.int 0)] :: F) := V300.putA 10 rfl W302
  have N302 := Fr.snoc X302 N300 (V300.old 10 rfl)
  have Z302 : n0 ≤ h302.size := by rw [W302.size]; exact Z300
  refine og st302 ?_
  refine og (fun _ => XS.aloadN X302.here hx rfl (hb hby d77m1_140) rfl rfl) ?_
  obtain ⟨T303, X303, e303, st303⟩ := getF X302 hx hZ hown (host := "") (Or.inl (ow hw 128 rfl)) Via.refl e302 (V302.fld 13 rfl 3 rfl rfl) (g := (mkF m 141 #[rv a, rv ls, iv 3, iv 1, iv 0, iv 2, rv x2, .val (.long (((hC.toInt64) - (lC.toInt64)) + (1 : Int64))), sv, iv (bt lC hC)] [(.ref a)])) rfl rfl (hb hby d77m1_141)
  refine og st303 ?_
  refine og (fun _ => XS.iload X303.here hx rfl (hb hby d77m1_144) rfl) ?_
  refine og (fun _ => XS.lconst X303.here hx rfl (hb hby d77m1_146)) ?_
  refine og (fun _ => XS.iload X303.here hx rfl (hb hby d77m1_147) rfl) ?_
  refine og (fun _ => XS.lshl X303.here hx rfl (hb hby d77m1_149) rfl) ?_
  refine og (fun _ => XS.lconst X303.here hx rfl (hb hby d77m1_150)) ?_
  show OGets p e below _ (T303.setTop (mkF m 151 #[rv a, rv ls, iv 3, iv 1, iv 0, iv 2, rv x2, .val (.long (((hC.toInt64) - (lC.toInt64)) + (1 : Int64))), sv, iv (bt lC hC)] [(.long (1 : Int64)), (.long ((1 : Int64) <<< ((bt lC hC) &&& 0x3f).toInt64)), (.int 2), (.ref b245)]))
  refine og (fun _ => XS.lsub X303.here hx rfl (hb hby d77m1_151) rfl) ?_
  show OGets p e below _ (T303.setTop (mkF m 152 #[rv a, rv ls, iv 3, iv 1, iv 0, iv 2, rv x2, .val (.long (((hC.toInt64) - (lC.toInt64)) + (1 : Int64))), sv, iv (bt lC hC)] [(.long (msk (bt lC hC))), (.int 2), (.ref b245)]))
  obtain ⟨cl304, Ar304, S304⟩ := V302.arr 9 rfl
  obtain ⟨T304, h304, X304, e304, W304', st304⟩ := stJ X303 hx hZ e303 Ar304 (j := (2 : Int32)) (own_inb S304 2 (by decide) (nb rfl)) (g := (mkF m 152 #[rv a, rv ls, iv 3, iv 1, iv 0, iv 2, rv x2, .val (.long (((hC.toInt64) - (lC.toInt64)) + (1 : Int64))), sv, iv (bt lC hC)] [(.long (msk (bt lC hC))), (.int 2), (.ref b245)])) rfl rfl (hb hby d77m1_152)
  have W304 := own_wr (vs := []) 2 (by decide) W304'
  have V304 : OView Z n0 h304 (oV x2 [.null, .null, (.ref eC), (.int iC), .null] :: oD eC [(.int 0), (.int lC), (.int hC)] :: oL ls [(.int 3), (.ref b), (.int 3)] :: oO3 b x0 x1 x2 :: oD eB [(.int 0), (.int lB), (.int hB)] :: oV x1 [.null, .null, (.ref eB), (.int iB), .null] :: oD eA [(.int 0), (.int lA), (.int hA)] :: oV x0 [.null, .null, (.ref eA), (.int iA), .null] :: oI b247 [lA, lB, 0] :: oK b245 [(msk (bt lA hA)), (msk (bt lB hB)), (msk (bt lC hC))] :: oI b243 [0, ((0 : Int32) + (bt lA hA)), 0] :: oI b241 [0, 0, 1] :: oI b239 [iA, iB, iC] :: oY a [(.ref b239), (.ref b241), (.ref b243), (.ref b245), (.ref b247), (.int 0)] :: F) := V302.putA 9 rfl W304
  have N304 := Fr.snoc X304 N302 (V302.old 9 rfl)
  have Z304 : n0 ≤ h304.size := by rw [W304.size]; exact Z302
  refine og st304 ?_
  refine og (fun _ => XS.aloadN X304.here hx rfl (hb hby d77m1_153) rfl rfl) ?_
  obtain ⟨T305, X305, e305, st305⟩ := getF X304 hx hZ hown (host := "") (Or.inl (ow hw 130 rfl)) Via.refl e304 (V304.fld 13 rfl 4 rfl rfl) (g := (mkF m 154 #[rv a, rv ls, iv 3, iv 1, iv 0, iv 2, rv x2, .val (.long (((hC.toInt64) - (lC.toInt64)) + (1 : Int64))), sv, iv (bt lC hC)] [(.ref a)])) rfl rfl (hb hby d77m1_154)
  refine og st305 ?_
  refine og (fun _ => XS.iload X305.here hx rfl (hb hby d77m1_157) rfl) ?_
  refine og (fun _ => XS.aload X305.here hx rfl (hb hby d77m1_159) rfl rfl) ?_
  obtain ⟨cq306, kq306, q306a, q306b, q306c⟩ := isOf hZ e305 (V304.exa 0 rfl)
  obtain ⟨_, _, ⟨T306, L306, k306, n306⟩, -, X306, ⟨Lc306, hQ306, l306, y306, z306⟩, st306⟩ := X305.virtualBack hx (y := (⟨"com/example/inya/inya/Variable", "domain", "()Lcom/example/inya/inya/Domain;"⟩ : MethodName)) (z := (⟨"com/example/inya/inya/Variable", "domain", "()Lcom/example/inya/inya/Domain;"⟩ : MethodName)) hown (mvT hZ (ow hw 155 rfl)) (mvT hZ (ow hw 156 rfl)) (notFace_of_selects (args := #[]) (mvT hZ (ow hw 158 rfl))) (mvT hZ (ow hw 158 rfl)) (mvT hZ (ow hw 157 rfl)) (by decide) (backOf (W := 2) (rm_vdo l Z a0 hw [] x2 eC iC h304 n0 _ Z304  V304) hZ (ow hw 159 rfl) (ow hw 37 rfl) (by decide) (by decide)) q306a q306c (g := (mkF m 161 #[rv a, rv ls, iv 3, iv 1, iv 0, iv 2, rv x2, .val (.long (((hC.toInt64) - (lC.toInt64)) + (1 : Int64))), sv, iv (bt lC hC)] [(.ref x2), (.int 2), (.ref b247)])) rfl (by rw [hml]; rfl) (Steps.refl _) (argsL := []) (rest := [(.int 2), (.ref b247)]) (lenOf pd_22 rfl) rfl (by show 2 * 0 + _ ≤ _; exact Nat.le_of_eq rfl) (hb hby d77m1_161) (fun _ _ => ⟨rfl, e305, nb rfl, nb rfl⟩)
  dsimp only [Pt.U, Pt.locs, Pt.cells, Pt.slots] at X306 l306 y306 z306 st306 hQ306
  rw [l306, y306, z306] at X306
  obtain ⟨rfl, rfl, e306⟩ := hQ306
  have N306 := Fr.app N304 (Fr.nil n0)
  refine OGets.after st306 ?_
  have V307_ : OView Z _ h304 (oD eC [(.int 0), (.int lC), (.int hC)] :: oV x2 [.null, .null, (.ref eC), (.int iC), .null] :: oL ls [(.int 3), (.ref b), (.int 3)] :: oO3 b x0 x1 x2 :: oD eB [(.int 0), (.int lB), (.int hB)] :: oV x1 [.null, .null, (.ref eB), (.int iB), .null] :: oD eA [(.int 0), (.int lA), (.int hA)] :: oV x0 [.null, .null, (.ref eA), (.int iA), .null] :: oI b247 [lA, lB, 0] :: oK b245 [(msk (bt lA hA)), (msk (bt lB hB)), (msk (bt lC hC))] :: oI b243 [0, ((0 : Int32) + (bt lA hA)), 0] :: oI b241 [0, 0, 1] :: oI b239 [iA, iB, iC] :: oY a [(.ref b239), (.ref b241), (.ref b243), (.ref b245), (.ref b247), (.int 0)] :: F) := (V304.bring 1 rfl)
  obtain ⟨cq307, kq307, q307a, q307b, q307c⟩ := isOf hZ e306 (V307_.exa 0 rfl)
  obtain ⟨_, _, ⟨T307, L307, k307, n307⟩, -, X307, ⟨Lc307, hQ307, l307, y307, z307⟩, st307⟩ := X306.virtualBack hx (y := (⟨"com/example/inya/inya/Domain", "lo", "()I"⟩ : MethodName)) (z := (⟨"com/example/inya/inya/Domain", "lo", "()I"⟩ : MethodName)) hown (mvT hZ (ow hw 179 rfl)) (mvT hZ (ow hw 180 rfl)) (notFace_of_selects (args := #[]) (mvT hZ (ow hw 182 rfl))) (mvT hZ (ow hw 182 rfl)) (mvT hZ (ow hw 181 rfl)) (by decide) (backOf (W := 2) (rm_dlo l Z a0 hw [] eC lC hC h304 n0 _ Z304  V307_) hZ (ow hw 183 rfl) (ow hw 40 rfl) (by decide) (by decide)) q307a q307c (g := (mkF m 164 #[rv a, rv ls, iv 3, iv 1, iv 0, iv 2, rv x2, .val (.long (((hC.toInt64) - (lC.toInt64)) + (1 : Int64))), sv, iv (bt lC hC)] [(.ref eC), (.int 2), (.ref b247)])) rfl (by rw [hml]; rfl) (Steps.refl _) (argsL := []) (rest := [(.int 2), (.ref b247)]) (lenOf pd_21 rfl) rfl (by show 2 * 0 + _ ≤ _; exact Nat.le_of_eq rfl) (hb hby d77m1_164) (fun _ _ => ⟨rfl, e306, nb rfl, nb rfl⟩)
  dsimp only [Pt.U, Pt.locs, Pt.cells, Pt.slots] at X307 l307 y307 z307 st307 hQ307
  rw [l307, y307, z307] at X307
  obtain ⟨rfl, rfl, e307⟩ := hQ307
  have N307 := Fr.app N306 (Fr.nil n0)
  refine OGets.after st307 ?_
  obtain ⟨cl308, Ar308, S308⟩ := V307_.arr 8 rfl
  obtain ⟨T308, h308, X308, e308, W308', st308⟩ := stI X307 hx hZ e307 Ar308 (j := (2 : Int32)) (own_inb S308 2 (by decide) (nb rfl)) (g := (mkF m 167 #[rv a, rv ls, iv 3, iv 1, iv 0, iv 2, rv x2, .val (.long (((hC.toInt64) - (lC.toInt64)) + (1 : Int64))), sv, iv (bt lC hC)] [(.int lC), (.int 2), (.ref b247)])) rfl rfl (hb hby d77m1_167)
  have W308 := own_wr (vs := []) 2 (by decide) W308'
  have V308 : OView Z n0 h308 (oD eC [(.int 0), (.int lC), (.int hC)] :: oV x2 [.null, .null, (.ref eC), (.int iC), .null] :: oL ls [(.int 3), (.ref b), (.int 3)] :: oO3 b x0 x1 x2 :: oD eB [(.int 0), (.int lB), (.int hB)] :: oV x1 [.null, .null, (.ref eB), (.int iB), .null] :: oD eA [(.int 0), (.int lA), (.int hA)] :: oV x0 [.null, .null, (.ref eA), (.int iA), .null] :: oI b247 [lA, lB, lC] :: oK b245 [(msk (bt lA hA)), (msk (bt lB hB)), (msk (bt lC hC))] :: oI b243 [0, ((0 : Int32) + (bt lA hA)), 0] :: oI b241 [0, 0, 1] :: oI b239 [iA, iB, iC] :: oY a [(.ref b239), (.ref b241), (.ref b243), (.ref b245), (.ref b247), (.int 0)] :: F) := V307_.putA 8 rfl W308
  have N308 := Fr.snoc X308 N307 (V307_.old 8 rfl)
  have Z308 : n0 ≤ h308.size := by rw [W308.size]; exact Z304
  refine og st308 ?_
  refine og (fun _ => XS.iload X308.here hx rfl (hb hby d77m1_168) rfl) ?_
  refine og (fun _ => XS.iload X308.here hx rfl (hb hby d77m1_170) rfl) ?_
  refine og (fun _ => XS.iadd X308.here hx rfl (hb hby d77m1_172) rfl) ?_
  refine og (fun _ => XS.istore X308.here hx rfl (hb hby d77m1_173) rfl (l' := #[rv a, rv ls, iv 3, iv 1, .val (.int ((0 : Int32) + (bt lC hC))), iv 2, rv x2, .val (.long (((hC.toInt64) - (lC.toInt64)) + (1 : Int64))), sv, iv (bt lC hC)]) rfl) ?_
  refine og (fun _ => XS.iinc X308.here hx rfl (hb hby d77m1_175) rfl (l' := #[rv a, rv ls, iv 3, iv 1, .val (.int ((0 : Int32) + (bt lC hC))), iv 3, rv x2, .val (.long (((hC.toInt64) - (lC.toInt64)) + (1 : Int64))), sv, iv (bt lC hC)]) rfl) ?_
  show OGets p e below _ (T308.setTop (mkF m 178 #[rv a, rv ls, iv 3, iv 1, .val (.int ((0 : Int32) + (bt lC hC))), iv 3, rv x2, .val (.long (((hC.toInt64) - (lC.toInt64)) + (1 : Int64))), sv, iv (bt lC hC)] []))
  refine og (fun _ => XS.goto X308.here hx rfl (pc0 := 178) (pc' := 54) rfl (hb hby d77m1_178) (by decide) (by decide)) ?_
  refine og (fun _ => XS.iload X308.here hx rfl (hb hby d77m1_54) rfl) ?_
  refine og (fun _ => XS.iloadN X308.here hx rfl (hb hby d77m1_56) rfl) ?_
  refine og (fun _ => XS.icmpYes X308.here hx rfl (pc0 := 57) (pc' := 181) rfl (hb hby d77m1_57) rfl (flt (by decide : ¬ ((3 : Int32) < (3 : Int32)))).2.1 (by decide) (by decide)) ?_
  refine og (fun _ => XS.aloadN X308.here hx rfl (hb hby d77m1_181) rfl rfl) ?_
  refine og (fun _ => XS.iloadN X308.here hx rfl (hb hby d77m1_182) rfl) ?_
  show OGets p e below _ (T308.setTop (mkF m 183 #[rv a, rv ls, iv 3, iv 1, .val (.int ((0 : Int32) + (bt lC hC))), iv 3, rv x2, .val (.long (((hC.toInt64) - (lC.toInt64)) + (1 : Int64))), sv, iv (bt lC hC)] [(.int 1), (.ref a)]))
  refine og (fun _ => XS.iconst X308.here hx rfl (hb hby d77m1_183)) ?_
  refine og (fun _ => XS.iadd X308.here hx rfl (hb hby d77m1_184) rfl) ?_
  show OGets p e below _ (T308.setTop (mkF m 185 #[rv a, rv ls, iv 3, iv 1, .val (.int ((0 : Int32) + (bt lC hC))), iv 3, rv x2, .val (.long (((hC.toInt64) - (lC.toInt64)) + (1 : Int64))), sv, iv (bt lC hC)] [(.int 2), (.ref a)]))
  obtain ⟨T310, h310, X310, e310, W310, st310⟩ := putF X308 hx hZ hown (host := "") (Or.inl (ow hw 184 rfl)) Via.refl e308 (V308.fld 13 rfl 5 rfl rfl) (V308.exa 13 rfl) (Or.inr ⟨(ow hw 185 rfl), rfl, hnm⟩) (ow hw 105 rfl) (ty := .int) (by decide) rfl rfl (g := (mkF m 185 #[rv a, rv ls, iv 3, iv 1, .val (.int ((0 : Int32) + (bt lC hC))), iv 3, rv x2, .val (.long (((hC.toInt64) - (lC.toInt64)) + (1 : Int64))), sv, iv (bt lC hC)] [(.int 2), (.ref a)])) rfl rfl (hb hby d77m1_185)
  have V310 : OView Z n0 h310 (oD eC [(.int 0), (.int lC), (.int hC)] :: oV x2 [.null, .null, (.ref eC), (.int iC), .null] :: oL ls [(.int 3), (.ref b), (.int 3)] :: oO3 b x0 x1 x2 :: oD eB [(.int 0), (.int lB), (.int hB)] :: oV x1 [.null, .null, (.ref eB), (.int iB), .null] :: oD eA [(.int 0), (.int lA), (.int hA)] :: oV x0 [.null, .null, (.ref eA), (.int iA), .null] :: oI b247 [lA, lB, lC] :: oK b245 [(msk (bt lA hA)), (msk (bt lB hB)), (msk (bt lC hC))] :: oI b243 [0, ((0 : Int32) + (bt lA hA)), 0] :: oI b241 [0, 0, 1] :: oI b239 [iA, iB, iC] :: oY a [(.ref b239), (.ref b241), (.ref b243), (.ref b245), (.ref b247), (.int 2)] :: F) := V308.putF 13 rfl 5 rfl W310
  have N310 := Fr.snoc X310 N308 (V308.old 13 rfl)
  have Z310 : n0 ≤ h310.size := by rw [W310.size]; exact Z308
  refine og st310 ?_
  refine OGets.retV X310 hx hlk Bd.returns (hb hby d77m1_188) (nb rfl) (nb rfl) ?_
  have Vd311 : OView Z _ h310 (oI b247 [lA, lB, lC] :: oK b245 [(msk (bt lA hA)), (msk (bt lB hB)), (msk (bt lC hC))] :: oI b243 [0, ((0 : Int32) + (bt lA hA)), 0] :: oI b241 [0, 0, 1] :: oI b239 [iA, iB, iC] :: oY a [(.ref b239), (.ref b241), (.ref b243), (.ref b245), (.ref b247), (.int 2)] :: F) := (((((((V310.bring 2 rfl).tail.bring 2 rfl).tail.bring 5 rfl).tail.bring 3 rfl).tail.bring 1 rfl).tail.bring 2 rfl).tail.bring 1 rfl).tail.tail
  have Vp312 : OView Z _ h310 (oY a [(.ref b239), (.ref b241), (.ref b243), (.ref b245), (.ref b247), (.int 2)] :: oI b239 [iA, iB, iC] :: oI b241 [0, 0, 1] :: oI b243 [0, ((0 : Int32) + (bt lA hA)), 0] :: oK b245 [(msk (bt lA hA)), (msk (bt lB hB)), (msk (bt lC hC))] :: oI b247 [lA, lB, lC] :: F) := (((((Vd311.bring 1 rfl).bring 2 rfl).bring 3 rfl).bring 4 rfl).bring 5 rfl)
  rw [e310]
  exact ⟨rfl, N310, b239, b241, b243, b245, b247, Vp312⟩
theorem pn_25 : plainName "java/util/Arrays" = true := by first | (simp [plainName, overriddenIn]; done) | decide +kernel
theorem dj65m101_0 : decode jdk_65_method_101_code 0 = .ok (.iconst 0, 1) := by decide +kernel
theorem dj65m101_1 : decode jdk_65_method_101_code 1 = .ok (.istore_n 3, 1) := by decide +kernel
theorem dj65m101_2 : decode jdk_65_method_101_code 2 = .ok (.aload_n 0, 1) := by decide +kernel
theorem dj65m101_3 : decode jdk_65_method_101_code 3 = .ok (.arraylength, 1) := by decide +kernel
theorem dj65m101_4 : decode jdk_65_method_101_code 4 = .ok (.istore 4, 2) := by decide +kernel
theorem dj65m101_6 : decode jdk_65_method_101_code 6 = .ok (.iload_n 3, 1) := by decide +kernel
theorem dj65m101_7 : decode jdk_65_method_101_code 7 = .ok (.iload 4, 2) := by decide +kernel
theorem dj65m101_9 : decode jdk_65_method_101_code 9 = .ok (.if_icmp .ge 13, 3) := by decide +kernel
theorem dj65m101_12 : decode jdk_65_method_101_code 12 = .ok (.aload_n 0, 1) := by decide +kernel
theorem dj65m101_13 : decode jdk_65_method_101_code 13 = .ok (.iload_n 3, 1) := by decide +kernel
theorem dj65m101_14 : decode jdk_65_method_101_code 14 = .ok (.lload_n 1, 1) := by decide +kernel
theorem dj65m101_15 : decode jdk_65_method_101_code 15 = .ok (.lastore, 1) := by decide +kernel
theorem dj65m101_16 : decode jdk_65_method_101_code 16 = .ok (.iinc 3 1, 3) := by decide +kernel
theorem dj65m101_19 : decode jdk_65_method_101_code 19 = .ok (.goto (-13), 3) := by decide +kernel
theorem dj65m101_22 : decode jdk_65_method_101_code 22 = .ok (.return_, 1) := by decide +kernel
theorem ef_fil (m : MethodId) (x0 : Addr) (x1 : Int64) : entryFrame m #[(.ref x0), (.long x1)] 5 = mkF m 0 #[.val (.ref x0), .val (.long x1), .second, .unset, .unset] [] := by first | (simp [entryFrame, mkF, argsToLocals, Value.category]; done) | rfl
def Q_fil (Z : State) (at0 : Addr) (h0 : Heap) (n0 : Nat) (F : List (Addr × OObj)) (v : Option Value) (h : Heap) (L : List Loc) : Prop := v = none ∧ Fr n0 L ∧ OView Z n0 h (oK at0 [(0 : Int64), (0 : Int64)] :: F)
set_option maxRecDepth 65536 in
set_option maxHeartbeats 40000000 in
theorem rm_fil (l : Launch) (Z : State) (a0 : Array Value) (hw : ∀ d ∈ tables_1, d.before a0 Z = true) (ws : List Jvm.Cond) (at0 : Addr) (h0 : Heap) (n0 : Nat) (F : List (Addr × OObj)) (Z0 : n0 ≤ h0.size) (V0 : OView Z n0 h0 (oK at0 [0, 0] :: F)) :
    MetFree l (⟨"java/util/Arrays", "fill", "([JJ)V"⟩ : MethodName) (head1 (Jvm.Cond.code (⟨"java/util/Arrays", "fill", "([JJ)V"⟩ : MethodName) jdk_65_method_101_code 5 none :: ws) ({ frames := 0, cells := 0, slots := 0, locals := 0 } : Room)) (fun a_ U => a_ = #[(.ref at0), (.long (0 : Int64))] ∧ Z.Warmed39 U.vm ∧ U.heap = h0) (fun _ _ _ _ _ => True) (fun _ U o U' => ∃ v L, o = .returned v ∧ Q_fil Z at0 h0 n0 F v U'.heap L ∧ FrameEnd U o U' L ({ frames := 0, cells := 0, slots := 0, locals := 0 } : Room).cells ({ frames := 0, cells := 0, slots := 0, locals := 0 } : Room).slots) := by
  refine MetFree.of_bodySF (plainFor_of_name pn_25) hisR ?_
  intro p e s m args below meth c s₁ Bd hml0 hP hK
  obtain ⟨rfl, hZ, hh⟩ := hP
  have hx := Bd.exec
  have hby := Bd.bytes
  have hlk : meth.locks = false := Bd.notSynchronized
  have hml : c.maxLocals = 5 := hml0
  have hown : s.vm.findClass "java/util/Arrays" = some m.cls := findClass_of_methodNamed Bd.named
  have hnm := (name_of_methodNamed Bd.named Bd.method).1
  have X0 : Stand p l e ({ frames := 0, cells := 0, slots := 0, locals := 0 } : Room) s m #[(.ref at0), (.long (0 : Int64))] below meth c s₁ [] 0 0 := Stand.of_body Bd
  have e0 : s₁.heap = h0 := by rw [← hh, Bd.state]; rfl
  have N0 := Fr.nil n0
  show OGets p e below (OLeaves s (Q_fil Z at0 h0 n0 F ) ({ frames := 0, cells := 0, slots := 0, locals := 0 } : Room).cells ({ frames := 0, cells := 0, slots := 0, locals := 0 } : Room).slots) _
  refine OGets.enter (ef_fil m at0 (0 : Int64)) ?_
  show OGets p e below _ (s₁.setTop (mkF m 0 #[rv at0, jv (0 : Int64), sv, uv, uv] []))
  refine og (fun _ => XS.iconst X0.here hx rfl (hb hby dj65m101_0)) ?_
  refine og (fun _ => XS.istoreN X0.here hx rfl (hb hby dj65m101_1) rfl (l' := #[rv at0, jv (0 : Int64), sv, iv 0, uv]) rfl) ?_
  refine og (fun _ => XS.aloadN X0.here hx rfl (hb hby dj65m101_2) rfl rfl) ?_
  obtain ⟨cl313, Ar313, S313⟩ := V0.arr 0 rfl
  have ln313 : cl313.slots.size.toInt32 = (2 : Int32) := by rw [own_len S313]; rfl
  refine og (U' := s₁.setTop (mkF m 4 #[rv at0, jv (0 : Int64), sv, iv 0, uv] [(.int 2)])) (fun t kt => ?_) ?_
  · refine X0.arraylength hx (by rw [e0]; exact Ar313.1) (State.isArrayOf_alike hZ.alike Ar313.2.1) (g := (mkF m 3 #[rv at0, jv (0 : Int64), sv, iv 0, uv] [(.ref at0)])) rfl rfl (hb hby dj65m101_3) _ ?_
    rw [ln313]; exact kt
  refine og (fun _ => XS.istore X0.here hx rfl (hb hby dj65m101_4) rfl (l' := #[rv at0, jv (0 : Int64), sv, iv 0, iv 2]) rfl) ?_
  refine og (fun _ => XS.iloadN X0.here hx rfl (hb hby dj65m101_6) rfl) ?_
  show OGets p e below _ (s₁.setTop (mkF m 7 #[rv at0, jv (0 : Int64), sv, iv 0, iv 2] [(.int 0)]))
  refine og (fun _ => XS.iload X0.here hx rfl (hb hby dj65m101_7) rfl) ?_
  refine og (fun _ => XS.icmpNo X0.here hx rfl (hb hby dj65m101_9) rfl (tlt (by decide : (0 : Int32) < (2 : Int32))).2.1) ?_
  refine og (fun _ => XS.aloadN X0.here hx rfl (hb hby dj65m101_12) rfl rfl) ?_
  refine og (fun _ => XS.iloadN X0.here hx rfl (hb hby dj65m101_13) rfl) ?_
  refine og (fun _ => XS.lloadN X0.here hx rfl (hb hby dj65m101_14) rfl) ?_
  obtain ⟨cl315, Ar315, S315⟩ := V0.arr 0 rfl
  obtain ⟨T315, h315, X315, e315, W315', st315⟩ := stJ X0 hx hZ e0 Ar315 (j := (0 : Int32)) (own_inb S315 0 (by decide) (nb rfl)) (g := (mkF m 15 #[rv at0, jv (0 : Int64), sv, iv 0, iv 2] [(.long (0 : Int64)), (.int 0), (.ref at0)])) rfl rfl (hb hby dj65m101_15)
  have W315 := own_wr (vs := []) 0 (by decide) W315'
  have V315 : OView Z n0 h315 (oK at0 [0, 0] :: F) := V0.putA 0 rfl W315
  have N315 := Fr.snoc X315 N0 (V0.old 0 rfl)
  have Z315 : n0 ≤ h315.size := by rw [W315.size]; exact Z0
  refine og st315 ?_
  refine og (fun _ => XS.iinc X315.here hx rfl (hb hby dj65m101_16) rfl (l' := #[rv at0, jv (0 : Int64), sv, iv 1, iv 2]) rfl) ?_
  refine og (fun _ => XS.goto X315.here hx rfl (pc0 := 19) (pc' := 6) rfl (hb hby dj65m101_19) (by decide) (by decide)) ?_
  refine og (fun _ => XS.iloadN X315.here hx rfl (hb hby dj65m101_6) rfl) ?_
  refine og (fun _ => XS.iload X315.here hx rfl (hb hby dj65m101_7) rfl) ?_
  refine og (fun _ => XS.icmpNo X315.here hx rfl (hb hby dj65m101_9) rfl (tlt (by decide : (1 : Int32) < (2 : Int32))).2.1) ?_
  show OGets p e below _ (T315.setTop (mkF m 12 #[rv at0, jv (0 : Int64), sv, iv 1, iv 2] []))
  refine og (fun _ => XS.aloadN X315.here hx rfl (hb hby dj65m101_12) rfl rfl) ?_
  refine og (fun _ => XS.iloadN X315.here hx rfl (hb hby dj65m101_13) rfl) ?_
  refine og (fun _ => XS.lloadN X315.here hx rfl (hb hby dj65m101_14) rfl) ?_
  obtain ⟨cl317, Ar317, S317⟩ := V315.arr 0 rfl
  obtain ⟨T317, h317, X317, e317, W317', st317⟩ := stJ X315 hx hZ e315 Ar317 (j := (1 : Int32)) (own_inb S317 1 (by decide) (nb rfl)) (g := (mkF m 15 #[rv at0, jv (0 : Int64), sv, iv 1, iv 2] [(.long (0 : Int64)), (.int 1), (.ref at0)])) rfl rfl (hb hby dj65m101_15)
  have W317 := own_wr (vs := []) 1 (by decide) W317'
  have V317 : OView Z n0 h317 (oK at0 [0, 0] :: F) := V315.putA 0 rfl W317
  have N317 := Fr.snoc X317 N315 (V315.old 0 rfl)
  have Z317 : n0 ≤ h317.size := by rw [W317.size]; exact Z315
  refine og st317 ?_
  refine og (fun _ => XS.iinc X317.here hx rfl (hb hby dj65m101_16) rfl (l' := #[rv at0, jv (0 : Int64), sv, iv 2, iv 2]) rfl) ?_
  refine og (fun _ => XS.goto X317.here hx rfl (pc0 := 19) (pc' := 6) rfl (hb hby dj65m101_19) (by decide) (by decide)) ?_
  refine og (fun _ => XS.iloadN X317.here hx rfl (hb hby dj65m101_6) rfl) ?_
  refine og (fun _ => XS.iload X317.here hx rfl (hb hby dj65m101_7) rfl) ?_
  refine og (fun _ => XS.icmpYes X317.here hx rfl (pc0 := 9) (pc' := 22) rfl (hb hby dj65m101_9) rfl (flt (by decide : ¬ ((2 : Int32) < (2 : Int32)))).2.1 (by decide) (by decide)) ?_
  show OGets p e below _ (T317.setTop (mkF m 22 #[rv at0, jv (0 : Int64), sv, iv 2, iv 2] []))
  refine OGets.retV X317 hx hlk Bd.returns (hb hby dj65m101_22) (nb rfl) (nb rfl) ?_
  rw [e317]
  exact ⟨rfl, N317, V317⟩
theorem d77m5_0 : decode prog_77_method_5_code 0 = .ok (.aload_n 2, 1) := by decide +kernel
theorem d77m5_1 : decode prog_77_method_5_code 1 = .ok (.lconst 0, 1) := by decide +kernel
theorem d77m5_2 : decode prog_77_method_5_code 2 = .ok (.invokestatic 94, 3) := by decide +kernel
theorem pd_26 : parseMethodDescriptor "([JJ)V" = some ⟨[(.array .long), .long], none⟩ := by decide +kernel
theorem d77m5_5 : decode prog_77_method_5_code 5 = .ok (.iconst 0, 1) := by decide +kernel
theorem d77m5_6 : decode prog_77_method_5_code 6 = .ok (.istore_n 3, 1) := by decide +kernel
theorem d77m5_7 : decode prog_77_method_5_code 7 = .ok (.iload_n 3, 1) := by decide +kernel
theorem d77m5_8 : decode prog_77_method_5_code 8 = .ok (.aload_n 0, 1) := by decide +kernel
theorem d77m5_9 : decode prog_77_method_5_code 9 = .ok (.getfield 13, 3) := by decide +kernel
theorem d77m5_12 : decode prog_77_method_5_code 12 = .ok (.arraylength, 1) := by decide +kernel
theorem d77m5_13 : decode prog_77_method_5_code 13 = .ok (.if_icmp .ge 44, 3) := by decide +kernel
theorem d77m5_16 : decode prog_77_method_5_code 16 = .ok (.aload_n 2, 1) := by decide +kernel
theorem d77m5_17 : decode prog_77_method_5_code 17 = .ok (.aload_n 0, 1) := by decide +kernel
theorem d77m5_18 : decode prog_77_method_5_code 18 = .ok (.getfield 19, 3) := by decide +kernel
theorem d77m5_21 : decode prog_77_method_5_code 21 = .ok (.iload_n 3, 1) := by decide +kernel
theorem d77m5_22 : decode prog_77_method_5_code 22 = .ok (.iaload, 1) := by decide +kernel
theorem d77m5_23 : decode prog_77_method_5_code 23 = .ok (.dup2, 1) := by decide +kernel
theorem d77m5_24 : decode prog_77_method_5_code 24 = .ok (.laload, 1) := by decide +kernel
theorem d77m5_25 : decode prog_77_method_5_code 25 = .ok (.aload_n 1, 1) := by decide +kernel
theorem d77m5_26 : decode prog_77_method_5_code 26 = .ok (.aload_n 0, 1) := by decide +kernel
theorem d77m5_27 : decode prog_77_method_5_code 27 = .ok (.getfield 13, 3) := by decide +kernel
theorem d77m5_30 : decode prog_77_method_5_code 30 = .ok (.iload_n 3, 1) := by decide +kernel
theorem d77m5_31 : decode prog_77_method_5_code 31 = .ok (.iaload, 1) := by decide +kernel
theorem d77m5_32 : decode prog_77_method_5_code 32 = .ok (.iaload, 1) := by decide +kernel
theorem d77m5_33 : decode prog_77_method_5_code 33 = .ok (.i2l, 1) := by decide +kernel
theorem d77m5_34 : decode prog_77_method_5_code 34 = .ok (.aload_n 0, 1) := by decide +kernel
theorem d77m5_35 : decode prog_77_method_5_code 35 = .ok (.getfield 29, 3) := by decide +kernel
theorem d77m5_38 : decode prog_77_method_5_code 38 = .ok (.iload_n 3, 1) := by decide +kernel
theorem d77m5_39 : decode prog_77_method_5_code 39 = .ok (.iaload, 1) := by decide +kernel
theorem d77m5_40 : decode prog_77_method_5_code 40 = .ok (.i2l, 1) := by decide +kernel
theorem d77m5_41 : decode prog_77_method_5_code 41 = .ok (.lsub, 1) := by decide +kernel
theorem d77m5_42 : decode prog_77_method_5_code 42 = .ok (.aload_n 0, 1) := by decide +kernel
theorem d77m5_43 : decode prog_77_method_5_code 43 = .ok (.getfield 22, 3) := by decide +kernel
theorem d77m5_46 : decode prog_77_method_5_code 46 = .ok (.iload_n 3, 1) := by decide +kernel
theorem d77m5_47 : decode prog_77_method_5_code 47 = .ok (.iaload, 1) := by decide +kernel
theorem d77m5_48 : decode prog_77_method_5_code 48 = .ok (.lshl, 1) := by decide +kernel
theorem d77m5_49 : decode prog_77_method_5_code 49 = .ok (.lor, 1) := by decide +kernel
theorem d77m5_50 : decode prog_77_method_5_code 50 = .ok (.lastore, 1) := by decide +kernel
theorem d77m5_51 : decode prog_77_method_5_code 51 = .ok (.iinc 3 1, 3) := by decide +kernel
theorem d77m5_54 : decode prog_77_method_5_code 54 = .ok (.goto (-47), 3) := by decide +kernel
theorem d77m5_57 : decode prog_77_method_5_code 57 = .ok (.return_, 1) := by decide +kernel
theorem ef_pack0 (m : MethodId) (x0 : Addr) (x1 : Addr) (x2 : Addr) : entryFrame m #[(.ref x0), (.ref x1), (.ref x2)] 4 = mkF m 0 #[.val (.ref x0), .val (.ref x1), .val (.ref x2), .unset] [] := by first | (simp [entryFrame, mkF, argsToLocals, Value.category]; done) | rfl
def Q_pack0 (Z : State) (a : Addr) (ai : Addr) (aw : Addr) (ash : Addr) (am : Addr) (ao : Addr) (asr : Addr) (at0 : Addr) (iA : Int32) (iB : Int32) (iC : Int32) (s1 : Int32) (s2 : Int32) (lA : Int32) (lB : Int32) (lC : Int32) (SRC : List Int32) (h0 : Heap) (n0 : Nat) (F : List (Addr × OObj)) (v : Option Value) (h : Heap) (L : List Loc) : Prop := v = none ∧ Fr n0 L ∧ ∃ T0 T1 : Int64, T0 = ((((0 : Int64) ||| shl (enc (gi SRC iA) lA) 0) ||| shl (enc (gi SRC iB) lB) s1) ||| shl (enc (gi SRC iC) lC) s2) ∧ T1 = (0 : Int64) ∧ OView Z n0 h (oY a [(.ref ai), (.ref aw), (.ref ash), (.ref am), (.ref ao), (.int (1 : Int32))] :: oI ai [iA, iB, iC] :: oI aw [(0 : Int32), (0 : Int32), (0 : Int32)] :: oI ash [(0 : Int32), s1, s2] :: oI ao [lA, lB, lC] :: oA asr SRC :: oK at0 [T0, T1] :: F)
set_option maxRecDepth 65536 in
set_option maxHeartbeats 40000000 in
theorem rm_pack0 (l : Launch) (Z : State) (a0 : Array Value) (hw : ∀ d ∈ tables_1, d.before a0 Z = true) (ws : List Jvm.Cond) (a : Addr) (ai : Addr) (aw : Addr) (ash : Addr) (am : Addr) (ao : Addr) (asr : Addr) (at0 : Addr) (iA : Int32) (iB : Int32) (iC : Int32) (s1 : Int32) (s2 : Int32) (lA : Int32) (lB : Int32) (lC : Int32) (SRC : List Int32) (h0 : Heap) (n0 : Nat) (F : List (Addr × OObj)) (Z0 : n0 ≤ h0.size) (hlS : SRC.length = 3) (hiA : inb 3 iA) (hiB : inb 3 iB) (hiC : inb 3 iC) (V0 : OView Z n0 h0 (oY a [(.ref ai), (.ref aw), (.ref ash), (.ref am), (.ref ao), (.int 1)] :: oI ai [iA, iB, iC] :: oI aw [0, 0, 0] :: oI ash [0, s1, s2] :: oI ao [lA, lB, lC] :: oA asr SRC :: oK at0 [0, 0] :: F)) :
    MetFree l (⟨"com/example/inya/inya/StateLayout", "pack", "([I[J)V"⟩ : MethodName) (head1 (Jvm.Cond.code (⟨"com/example/inya/inya/StateLayout", "pack", "([I[J)V"⟩ : MethodName) prog_77_method_5_code 4 none :: ws) ({ frames := 1, cells := 0, slots := 0, locals := 16 } : Room)) (fun a_ U => a_ = #[(.ref a), (.ref asr), (.ref at0)] ∧ Z.Warmed39 U.vm ∧ U.heap = h0) (fun _ _ _ _ _ => True) (fun _ U o U' => ∃ v L, o = .returned v ∧ Q_pack0 Z a ai aw ash am ao asr at0 iA iB iC s1 s2 lA lB lC SRC h0 n0 F v U'.heap L ∧ FrameEnd U o U' L ({ frames := 1, cells := 0, slots := 0, locals := 16 } : Room).cells ({ frames := 1, cells := 0, slots := 0, locals := 16 } : Room).slots) := by
  refine MetFree.of_bodySF (plainFor_of_name pn_20) hisR ?_
  intro p e s m args below meth c s₁ Bd hml0 hP hK
  obtain ⟨rfl, hZ, hh⟩ := hP
  have hx := Bd.exec
  have hby := Bd.bytes
  have hlk : meth.locks = false := Bd.notSynchronized
  have hml : c.maxLocals = 4 := hml0
  have hown : s.vm.findClass "com/example/inya/inya/StateLayout" = some m.cls := findClass_of_methodNamed Bd.named
  have hnm := (name_of_methodNamed Bd.named Bd.method).1
  have X0 : Stand p l e ({ frames := 1, cells := 0, slots := 0, locals := 16 } : Room) s m #[(.ref a), (.ref asr), (.ref at0)] below meth c s₁ [] 0 0 := Stand.of_body Bd
  have e0 : s₁.heap = h0 := by rw [← hh, Bd.state]; rfl
  have N0 := Fr.nil n0
  show OGets p e below (OLeaves s (Q_pack0 Z a ai aw ash am ao asr at0 iA iB iC s1 s2 lA lB lC SRC h0 n0 F ) ({ frames := 1, cells := 0, slots := 0, locals := 16 } : Room).cells ({ frames := 1, cells := 0, slots := 0, locals := 16 } : Room).slots) _
  refine OGets.enter (ef_pack0 m a asr at0) ?_
  show OGets p e below _ (s₁.setTop (mkF m 0 #[rv a, rv asr, rv at0, uv] []))
  refine og (fun _ => XS.aloadN X0.here hx rfl (hb hby d77m5_0) rfl rfl) ?_
  refine og (fun _ => XS.lconst X0.here hx rfl (hb hby d77m5_1)) ?_
  have V319_ : OView Z _ h0 (oK at0 [0, 0] :: oY a [(.ref ai), (.ref aw), (.ref ash), (.ref am), (.ref ao), (.int 1)] :: oI ai [iA, iB, iC] :: oI aw [0, 0, 0] :: oI ash [0, s1, s2] :: oI ao [lA, lB, lC] :: oA asr SRC :: F) := (V0.bring 6 rfl)
  obtain ⟨_, _, ⟨T319, L319, k319, n319⟩, -, X319, ⟨Lc319, hQ319, l319, y319, z319⟩, st319⟩ := Jvm.LawKit.callS X0 hx (y := (⟨"java/util/Arrays", "fill", "([JJ)V"⟩ : MethodName)) hown (mvT hZ (ow hw 191 rfl)) (mvT hZ (ow hw 192 rfl)) (mvT hZ (ow hw 193 rfl)) (mvT hZ (ow hw 194 rfl)) (by decide) (backOf (W := 0) (rm_fil l Z a0 hw [] at0 h0 n0 _ Z0  V319_) hZ (ow hw 194 rfl) (ow hw 193 rfl) (by decide) (by decide)) (g := (mkF m 2 #[rv a, rv asr, rv at0, uv] [(.long (0 : Int64)), (.ref at0)])) rfl (by rw [hml]; rfl) (argsL := [(.ref at0), (.long (0 : Int64))]) (rest := []) (lenOf pd_26 rfl) rfl (by show 2 * 0 + _ ≤ _; exact Nat.le_of_eq rfl) (hb hby d77m5_2) (fun _ _ => ⟨rfl, e0, nb rfl, nb rfl⟩)
  dsimp only [Pt.U, Pt.locs, Pt.cells, Pt.slots] at X319 l319 y319 z319 st319 hQ319
  rw [l319, y319, z319] at X319
  obtain ⟨rfl, N319q, V319⟩ := hQ319
  have N319 := Fr.app N0 N319q
  have V319v : OView Z n0 T319.heap (oK at0 [0, 0] :: oY a [(.ref ai), (.ref aw), (.ref ash), (.ref am), (.ref ao), (.int 1)] :: oI ai [iA, iB, iC] :: oI aw [0, 0, 0] :: oI ash [0, s1, s2] :: oI ao [lA, lB, lC] :: oA asr SRC :: F) := V319
  have Z319 : n0 ≤ T319.heap.size := V319v.big 0 rfl
  refine og st319 ?_
  refine og (fun _ => XS.iconst X319.here hx rfl (hb hby d77m5_5)) ?_
  refine og (fun _ => XS.istoreN X319.here hx rfl (hb hby d77m5_6) rfl (l' := #[rv a, rv asr, rv at0, iv 0]) rfl) ?_
  refine og (fun _ => XS.iloadN X319.here hx rfl (hb hby d77m5_7) rfl) ?_
  refine og (fun _ => XS.aloadN X319.here hx rfl (hb hby d77m5_8) rfl rfl) ?_
  obtain ⟨T320, X320, e320, st320⟩ := getF X319 hx hZ hown (host := "") (Or.inl (ow hw 121 rfl)) Via.refl rfl (V319v.fld 1 rfl 0 rfl rfl) (g := (mkF m 9 #[rv a, rv asr, rv at0, iv 0] [(.ref a), (.int 0)])) rfl rfl (hb hby d77m5_9)
  refine og st320 ?_
  obtain ⟨cl321, Ar321, S321⟩ := V319v.arr 2 rfl
  have ln321 : cl321.slots.size.toInt32 = (3 : Int32) := by rw [own_len S321]; rfl
  refine og (U' := T320.setTop (mkF m 13 #[rv a, rv asr, rv at0, iv 0] [(.int 3), (.int 0)])) (fun t kt => ?_) ?_
  · refine X320.arraylength hx (by rw [e320]; exact Ar321.1) (State.isArrayOf_alike hZ.alike Ar321.2.1) (g := (mkF m 12 #[rv a, rv asr, rv at0, iv 0] [(.ref ai), (.int 0)])) rfl rfl (hb hby d77m5_12) _ ?_
    rw [ln321]; exact kt
  refine og (fun _ => XS.icmpNo X320.here hx rfl (hb hby d77m5_13) rfl (tlt (by decide : (0 : Int32) < (3 : Int32))).2.1) ?_
  refine og (fun _ => XS.aloadN X320.here hx rfl (hb hby d77m5_16) rfl rfl) ?_
  refine og (fun _ => XS.aloadN X320.here hx rfl (hb hby d77m5_17) rfl rfl) ?_
  obtain ⟨T323, X323, e323, st323⟩ := getF X320 hx hZ hown (host := "") (Or.inl (ow hw 123 rfl)) Via.refl e320 (V319v.fld 1 rfl 1 rfl rfl) (g := (mkF m 18 #[rv a, rv asr, rv at0, iv 0] [(.ref a), (.ref at0)])) rfl rfl (hb hby d77m5_18)
  refine og st323 ?_
  refine og (fun _ => XS.iloadN X323.here hx rfl (hb hby d77m5_21) rfl) ?_
  obtain ⟨cl324, Ar324, S324⟩ := V319v.arr 3 rfl
  refine og (fun _ => X323.iaload hx (j := (0 : Int32)) (v := (.int 0)) (by rw [e323]; exact Ar324.1) (State.isArrayOf_alike hZ.alike Ar324.2.1) Ar324.2.2 (own_inb S324 0 (by decide) (nb rfl)) (own_get S324 0 (by decide) rfl) (g := (mkF m 22 #[rv a, rv asr, rv at0, iv 0] [(.int 0), (.ref aw), (.ref at0)])) rfl rfl (hb hby d77m5_22) _) ?_
  refine og (U' := T323.setTop (mkF m 24 #[rv a, rv asr, rv at0, iv 0] [(.int 0), (.ref at0), (.int 0), (.ref at0)])) (fun t kt => ?_) ?_
  · jvm_step X323.here [X323.here.top, hx, (hb hby d77m5_23), Value.category]
    exact kt
  obtain ⟨cl325, Ar325, S325⟩ := V319v.arr 0 rfl
  refine og (fun _ => X323.laload hx (j := (0 : Int32)) (v := (.long (0 : Int64))) (by rw [e323]; exact Ar325.1) (State.isArrayOf_alike hZ.alike Ar325.2.1) Ar325.2.2 (own_inb S325 0 (by decide) (nb rfl)) (own_get S325 0 (by decide) rfl) (g := (mkF m 24 #[rv a, rv asr, rv at0, iv 0] [(.int 0), (.ref at0), (.int 0), (.ref at0)])) rfl rfl (hb hby d77m5_24) _) ?_
  refine og (fun _ => XS.aloadN X323.here hx rfl (hb hby d77m5_25) rfl rfl) ?_
  show OGets p e below _ (T323.setTop (mkF m 26 #[rv a, rv asr, rv at0, iv 0] [(.ref asr), (.long (0 : Int64)), (.int 0), (.ref at0)]))
  refine og (fun _ => XS.aloadN X323.here hx rfl (hb hby d77m5_26) rfl rfl) ?_
  obtain ⟨T326, X326, e326, st326⟩ := getF X323 hx hZ hown (host := "") (Or.inl (ow hw 121 rfl)) Via.refl e323 (V319v.fld 1 rfl 0 rfl rfl) (g := (mkF m 27 #[rv a, rv asr, rv at0, iv 0] [(.ref a), (.ref asr), (.long (0 : Int64)), (.int 0), (.ref at0)])) rfl rfl (hb hby d77m5_27)
  refine og st326 ?_
  refine og (fun _ => XS.iloadN X326.here hx rfl (hb hby d77m5_30) rfl) ?_
  obtain ⟨cl327, Ar327, S327⟩ := V319v.arr 2 rfl
  refine og (fun _ => X326.iaload hx (j := (0 : Int32)) (v := (.int iA)) (by rw [e326]; exact Ar327.1) (State.isArrayOf_alike hZ.alike Ar327.2.1) Ar327.2.2 (own_inb S327 0 (by decide) (nb rfl)) (own_get S327 0 (by decide) rfl) (g := (mkF m 31 #[rv a, rv asr, rv at0, iv 0] [(.int 0), (.ref ai), (.ref asr), (.long (0 : Int64)), (.int 0), (.ref at0)])) rfl rfl (hb hby d77m5_31) _) ?_
  obtain ⟨cl328, Ar328, S328⟩ := V319v.arr 6 rfl
  refine og (fun _ => X326.iaload hx (j := iA) (v := (.int (gi SRC iA))) (by rw [e326]; exact Ar328.1) (State.isArrayOf_alike hZ.alike Ar328.2.1) Ar328.2.2 (own_sin (n := 3) S328 (by simp only [List.length_map, si_len, sj_len, List.length_replicate, hlS]) hiA) (own_sgetI (n := 3) S328 (by simp only [List.length_map, si_len, sj_len, List.length_replicate, hlS]) hiA) (g := (mkF m 32 #[rv a, rv asr, rv at0, iv 0] [(.int iA), (.ref asr), (.long (0 : Int64)), (.int 0), (.ref at0)])) rfl rfl (hb hby d77m5_32) _) ?_
  refine og (fun _ => XS.i2l X326.here hx rfl (hb hby d77m5_33) rfl) ?_
  refine og (fun _ => XS.aloadN X326.here hx rfl (hb hby d77m5_34) rfl rfl) ?_
  show OGets p e below _ (T326.setTop (mkF m 35 #[rv a, rv asr, rv at0, iv 0] [(.ref a), (.long ((gi SRC iA).toInt64)), (.long (0 : Int64)), (.int 0), (.ref at0)]))
  obtain ⟨T329, X329, e329, st329⟩ := getF X326 hx hZ hown (host := "") (Or.inl (ow hw 130 rfl)) Via.refl e326 (V319v.fld 1 rfl 4 rfl rfl) (g := (mkF m 35 #[rv a, rv asr, rv at0, iv 0] [(.ref a), (.long ((gi SRC iA).toInt64)), (.long (0 : Int64)), (.int 0), (.ref at0)])) rfl rfl (hb hby d77m5_35)
  refine og st329 ?_
  refine og (fun _ => XS.iloadN X329.here hx rfl (hb hby d77m5_38) rfl) ?_
  obtain ⟨cl330, Ar330, S330⟩ := V319v.arr 5 rfl
  refine og (fun _ => X329.iaload hx (j := (0 : Int32)) (v := (.int lA)) (by rw [e329]; exact Ar330.1) (State.isArrayOf_alike hZ.alike Ar330.2.1) Ar330.2.2 (own_inb S330 0 (by decide) (nb rfl)) (own_get S330 0 (by decide) rfl) (g := (mkF m 39 #[rv a, rv asr, rv at0, iv 0] [(.int 0), (.ref ao), (.long ((gi SRC iA).toInt64)), (.long (0 : Int64)), (.int 0), (.ref at0)])) rfl rfl (hb hby d77m5_39) _) ?_
  refine og (fun _ => XS.i2l X329.here hx rfl (hb hby d77m5_40) rfl) ?_
  refine og (fun _ => XS.lsub X329.here hx rfl (hb hby d77m5_41) rfl) ?_
  refine og (fun _ => XS.aloadN X329.here hx rfl (hb hby d77m5_42) rfl rfl) ?_
  show OGets p e below _ (T329.setTop (mkF m 43 #[rv a, rv asr, rv at0, iv 0] [(.ref a), (.long (((gi SRC iA).toInt64) - (lA.toInt64))), (.long (0 : Int64)), (.int 0), (.ref at0)]))
  obtain ⟨T331, X331, e331, st331⟩ := getF X329 hx hZ hown (host := "") (Or.inl (ow hw 125 rfl)) Via.refl e329 (V319v.fld 1 rfl 2 rfl rfl) (g := (mkF m 43 #[rv a, rv asr, rv at0, iv 0] [(.ref a), (.long (((gi SRC iA).toInt64) - (lA.toInt64))), (.long (0 : Int64)), (.int 0), (.ref at0)])) rfl rfl (hb hby d77m5_43)
  refine og st331 ?_
  refine og (fun _ => XS.iloadN X331.here hx rfl (hb hby d77m5_46) rfl) ?_
  obtain ⟨cl332, Ar332, S332⟩ := V319v.arr 4 rfl
  refine og (fun _ => X331.iaload hx (j := (0 : Int32)) (v := (.int 0)) (by rw [e331]; exact Ar332.1) (State.isArrayOf_alike hZ.alike Ar332.2.1) Ar332.2.2 (own_inb S332 0 (by decide) (nb rfl)) (own_get S332 0 (by decide) rfl) (g := (mkF m 47 #[rv a, rv asr, rv at0, iv 0] [(.int 0), (.ref ash), (.long (((gi SRC iA).toInt64) - (lA.toInt64))), (.long (0 : Int64)), (.int 0), (.ref at0)])) rfl rfl (hb hby d77m5_47) _) ?_
  refine og (fun _ => XS.lshl X331.here hx rfl (hb hby d77m5_48) rfl) ?_
  refine og (fun _ => XS.lor X331.here hx rfl (hb hby d77m5_49) rfl) ?_
  obtain ⟨cl333, Ar333, S333⟩ := V319v.arr 0 rfl
  obtain ⟨T333, h333, X333, e333, W333', st333⟩ := stJ X331 hx hZ e331 Ar333 (j := (0 : Int32)) (own_inb S333 0 (by decide) (nb rfl)) (g := (mkF m 50 #[rv a, rv asr, rv at0, iv 0] [(.long ((0 : Int64) ||| ((((gi SRC iA).toInt64) - (lA.toInt64)) <<< ((0 : Int32) &&& 0x3f).toInt64))), (.int 0), (.ref at0)])) rfl rfl (hb hby d77m5_50)
  have W333 := own_wr (vs := []) 0 (by decide) W333'
  have V333 : OView Z n0 h333 (oK at0 [((0 : Int64) ||| ((((gi SRC iA).toInt64) - (lA.toInt64)) <<< ((0 : Int32) &&& 0x3f).toInt64)), 0] :: oY a [(.ref ai), (.ref aw), (.ref ash), (.ref am), (.ref ao), (.int 1)] :: oI ai [iA, iB, iC] :: oI aw [0, 0, 0] :: oI ash [0, s1, s2] :: oI ao [lA, lB, lC] :: oA asr SRC :: F) := V319v.putA 0 rfl W333
  have N333 := Fr.snoc X333 N319 (V319v.old 0 rfl)
  have Z333 : n0 ≤ h333.size := by rw [W333.size]; exact Z319
  refine og st333 ?_
  refine og (fun _ => XS.iinc X333.here hx rfl (hb hby d77m5_51) rfl (l' := #[rv a, rv asr, rv at0, iv 1]) rfl) ?_
  refine og (fun _ => XS.goto X333.here hx rfl (pc0 := 54) (pc' := 7) rfl (hb hby d77m5_54) (by decide) (by decide)) ?_
  refine og (fun _ => XS.iloadN X333.here hx rfl (hb hby d77m5_7) rfl) ?_
  refine og (fun _ => XS.aloadN X333.here hx rfl (hb hby d77m5_8) rfl rfl) ?_
  obtain ⟨T334, X334, e334, st334⟩ := getF X333 hx hZ hown (host := "") (Or.inl (ow hw 121 rfl)) Via.refl e333 (V333.fld 1 rfl 0 rfl rfl) (g := (mkF m 9 #[rv a, rv asr, rv at0, iv 1] [(.ref a), (.int 1)])) rfl rfl (hb hby d77m5_9)
  refine og st334 ?_
  obtain ⟨cl335, Ar335, S335⟩ := V333.arr 2 rfl
  have ln335 : cl335.slots.size.toInt32 = (3 : Int32) := by rw [own_len S335]; rfl
  refine og (U' := T334.setTop (mkF m 13 #[rv a, rv asr, rv at0, iv 1] [(.int 3), (.int 1)])) (fun t kt => ?_) ?_
  · refine X334.arraylength hx (by rw [e334]; exact Ar335.1) (State.isArrayOf_alike hZ.alike Ar335.2.1) (g := (mkF m 12 #[rv a, rv asr, rv at0, iv 1] [(.ref ai), (.int 1)])) rfl rfl (hb hby d77m5_12) _ ?_
    rw [ln335]; exact kt
  refine og (fun _ => XS.icmpNo X334.here hx rfl (hb hby d77m5_13) rfl (tlt (by decide : (1 : Int32) < (3 : Int32))).2.1) ?_
  refine og (fun _ => XS.aloadN X334.here hx rfl (hb hby d77m5_16) rfl rfl) ?_
  refine og (fun _ => XS.aloadN X334.here hx rfl (hb hby d77m5_17) rfl rfl) ?_
  obtain ⟨T337, X337, e337, st337⟩ := getF X334 hx hZ hown (host := "") (Or.inl (ow hw 123 rfl)) Via.refl e334 (V333.fld 1 rfl 1 rfl rfl) (g := (mkF m 18 #[rv a, rv asr, rv at0, iv 1] [(.ref a), (.ref at0)])) rfl rfl (hb hby d77m5_18)
  refine og st337 ?_
  refine og (fun _ => XS.iloadN X337.here hx rfl (hb hby d77m5_21) rfl) ?_
  obtain ⟨cl338, Ar338, S338⟩ := V333.arr 3 rfl
  refine og (fun _ => X337.iaload hx (j := (1 : Int32)) (v := (.int 0)) (by rw [e337]; exact Ar338.1) (State.isArrayOf_alike hZ.alike Ar338.2.1) Ar338.2.2 (own_inb S338 1 (by decide) (nb rfl)) (own_get S338 1 (by decide) rfl) (g := (mkF m 22 #[rv a, rv asr, rv at0, iv 1] [(.int 1), (.ref aw), (.ref at0)])) rfl rfl (hb hby d77m5_22) _) ?_
  refine og (U' := T337.setTop (mkF m 24 #[rv a, rv asr, rv at0, iv 1] [(.int 0), (.ref at0), (.int 0), (.ref at0)])) (fun t kt => ?_) ?_
  · jvm_step X337.here [X337.here.top, hx, (hb hby d77m5_23), Value.category]
    exact kt
  obtain ⟨cl339, Ar339, S339⟩ := V333.arr 0 rfl
  refine og (fun _ => X337.laload hx (j := (0 : Int32)) (v := (.long ((0 : Int64) ||| ((((gi SRC iA).toInt64) - (lA.toInt64)) <<< ((0 : Int32) &&& 0x3f).toInt64)))) (by rw [e337]; exact Ar339.1) (State.isArrayOf_alike hZ.alike Ar339.2.1) Ar339.2.2 (own_inb S339 0 (by decide) (nb rfl)) (own_get S339 0 (by decide) rfl) (g := (mkF m 24 #[rv a, rv asr, rv at0, iv 1] [(.int 0), (.ref at0), (.int 0), (.ref at0)])) rfl rfl (hb hby d77m5_24) _) ?_
  refine og (fun _ => XS.aloadN X337.here hx rfl (hb hby d77m5_25) rfl rfl) ?_
  show OGets p e below _ (T337.setTop (mkF m 26 #[rv a, rv asr, rv at0, iv 1] [(.ref asr), (.long ((0 : Int64) ||| ((((gi SRC iA).toInt64) - (lA.toInt64)) <<< ((0 : Int32) &&& 0x3f).toInt64))), (.int 0), (.ref at0)]))
  refine og (fun _ => XS.aloadN X337.here hx rfl (hb hby d77m5_26) rfl rfl) ?_
  obtain ⟨T340, X340, e340, st340⟩ := getF X337 hx hZ hown (host := "") (Or.inl (ow hw 121 rfl)) Via.refl e337 (V333.fld 1 rfl 0 rfl rfl) (g := (mkF m 27 #[rv a, rv asr, rv at0, iv 1] [(.ref a), (.ref asr), (.long ((0 : Int64) ||| ((((gi SRC iA).toInt64) - (lA.toInt64)) <<< ((0 : Int32) &&& 0x3f).toInt64))), (.int 0), (.ref at0)])) rfl rfl (hb hby d77m5_27)
  refine og st340 ?_
  refine og (fun _ => XS.iloadN X340.here hx rfl (hb hby d77m5_30) rfl) ?_
  obtain ⟨cl341, Ar341, S341⟩ := V333.arr 2 rfl
  refine og (fun _ => X340.iaload hx (j := (1 : Int32)) (v := (.int iB)) (by rw [e340]; exact Ar341.1) (State.isArrayOf_alike hZ.alike Ar341.2.1) Ar341.2.2 (own_inb S341 1 (by decide) (nb rfl)) (own_get S341 1 (by decide) rfl) (g := (mkF m 31 #[rv a, rv asr, rv at0, iv 1] [(.int 1), (.ref ai), (.ref asr), (.long ((0 : Int64) ||| ((((gi SRC iA).toInt64) - (lA.toInt64)) <<< ((0 : Int32) &&& 0x3f).toInt64))), (.int 0), (.ref at0)])) rfl rfl (hb hby d77m5_31) _) ?_
  obtain ⟨cl342, Ar342, S342⟩ := V333.arr 6 rfl
  refine og (fun _ => X340.iaload hx (j := iB) (v := (.int (gi SRC iB))) (by rw [e340]; exact Ar342.1) (State.isArrayOf_alike hZ.alike Ar342.2.1) Ar342.2.2 (own_sin (n := 3) S342 (by simp only [List.length_map, si_len, sj_len, List.length_replicate, hlS]) hiB) (own_sgetI (n := 3) S342 (by simp only [List.length_map, si_len, sj_len, List.length_replicate, hlS]) hiB) (g := (mkF m 32 #[rv a, rv asr, rv at0, iv 1] [(.int iB), (.ref asr), (.long ((0 : Int64) ||| ((((gi SRC iA).toInt64) - (lA.toInt64)) <<< ((0 : Int32) &&& 0x3f).toInt64))), (.int 0), (.ref at0)])) rfl rfl (hb hby d77m5_32) _) ?_
  refine og (fun _ => XS.i2l X340.here hx rfl (hb hby d77m5_33) rfl) ?_
  refine og (fun _ => XS.aloadN X340.here hx rfl (hb hby d77m5_34) rfl rfl) ?_
  show OGets p e below _ (T340.setTop (mkF m 35 #[rv a, rv asr, rv at0, iv 1] [(.ref a), (.long ((gi SRC iB).toInt64)), (.long ((0 : Int64) ||| ((((gi SRC iA).toInt64) - (lA.toInt64)) <<< ((0 : Int32) &&& 0x3f).toInt64))), (.int 0), (.ref at0)]))
  obtain ⟨T343, X343, e343, st343⟩ := getF X340 hx hZ hown (host := "") (Or.inl (ow hw 130 rfl)) Via.refl e340 (V333.fld 1 rfl 4 rfl rfl) (g := (mkF m 35 #[rv a, rv asr, rv at0, iv 1] [(.ref a), (.long ((gi SRC iB).toInt64)), (.long ((0 : Int64) ||| ((((gi SRC iA).toInt64) - (lA.toInt64)) <<< ((0 : Int32) &&& 0x3f).toInt64))), (.int 0), (.ref at0)])) rfl rfl (hb hby d77m5_35)
  refine og st343 ?_
  refine og (fun _ => XS.iloadN X343.here hx rfl (hb hby d77m5_38) rfl) ?_
  obtain ⟨cl344, Ar344, S344⟩ := V333.arr 5 rfl
  refine og (fun _ => X343.iaload hx (j := (1 : Int32)) (v := (.int lB)) (by rw [e343]; exact Ar344.1) (State.isArrayOf_alike hZ.alike Ar344.2.1) Ar344.2.2 (own_inb S344 1 (by decide) (nb rfl)) (own_get S344 1 (by decide) rfl) (g := (mkF m 39 #[rv a, rv asr, rv at0, iv 1] [(.int 1), (.ref ao), (.long ((gi SRC iB).toInt64)), (.long ((0 : Int64) ||| ((((gi SRC iA).toInt64) - (lA.toInt64)) <<< ((0 : Int32) &&& 0x3f).toInt64))), (.int 0), (.ref at0)])) rfl rfl (hb hby d77m5_39) _) ?_
  refine og (fun _ => XS.i2l X343.here hx rfl (hb hby d77m5_40) rfl) ?_
  refine og (fun _ => XS.lsub X343.here hx rfl (hb hby d77m5_41) rfl) ?_
  refine og (fun _ => XS.aloadN X343.here hx rfl (hb hby d77m5_42) rfl rfl) ?_
  show OGets p e below _ (T343.setTop (mkF m 43 #[rv a, rv asr, rv at0, iv 1] [(.ref a), (.long (((gi SRC iB).toInt64) - (lB.toInt64))), (.long ((0 : Int64) ||| ((((gi SRC iA).toInt64) - (lA.toInt64)) <<< ((0 : Int32) &&& 0x3f).toInt64))), (.int 0), (.ref at0)]))
  obtain ⟨T345, X345, e345, st345⟩ := getF X343 hx hZ hown (host := "") (Or.inl (ow hw 125 rfl)) Via.refl e343 (V333.fld 1 rfl 2 rfl rfl) (g := (mkF m 43 #[rv a, rv asr, rv at0, iv 1] [(.ref a), (.long (((gi SRC iB).toInt64) - (lB.toInt64))), (.long ((0 : Int64) ||| ((((gi SRC iA).toInt64) - (lA.toInt64)) <<< ((0 : Int32) &&& 0x3f).toInt64))), (.int 0), (.ref at0)])) rfl rfl (hb hby d77m5_43)
  refine og st345 ?_
  refine og (fun _ => XS.iloadN X345.here hx rfl (hb hby d77m5_46) rfl) ?_
  obtain ⟨cl346, Ar346, S346⟩ := V333.arr 4 rfl
  refine og (fun _ => X345.iaload hx (j := (1 : Int32)) (v := (.int s1)) (by rw [e345]; exact Ar346.1) (State.isArrayOf_alike hZ.alike Ar346.2.1) Ar346.2.2 (own_inb S346 1 (by decide) (nb rfl)) (own_get S346 1 (by decide) rfl) (g := (mkF m 47 #[rv a, rv asr, rv at0, iv 1] [(.int 1), (.ref ash), (.long (((gi SRC iB).toInt64) - (lB.toInt64))), (.long ((0 : Int64) ||| ((((gi SRC iA).toInt64) - (lA.toInt64)) <<< ((0 : Int32) &&& 0x3f).toInt64))), (.int 0), (.ref at0)])) rfl rfl (hb hby d77m5_47) _) ?_
  refine og (fun _ => XS.lshl X345.here hx rfl (hb hby d77m5_48) rfl) ?_
  refine og (fun _ => XS.lor X345.here hx rfl (hb hby d77m5_49) rfl) ?_
  obtain ⟨cl347, Ar347, S347⟩ := V333.arr 0 rfl
  obtain ⟨T347, h347, X347, e347, W347', st347⟩ := stJ X345 hx hZ e345 Ar347 (j := (0 : Int32)) (own_inb S347 0 (by decide) (nb rfl)) (g := (mkF m 50 #[rv a, rv asr, rv at0, iv 1] [(.long (((0 : Int64) ||| ((((gi SRC iA).toInt64) - (lA.toInt64)) <<< ((0 : Int32) &&& 0x3f).toInt64)) ||| ((((gi SRC iB).toInt64) - (lB.toInt64)) <<< (s1 &&& 0x3f).toInt64))), (.int 0), (.ref at0)])) rfl rfl (hb hby d77m5_50)
  have W347 := own_wr (vs := []) 0 (by decide) W347'
  have V347 : OView Z n0 h347 (oK at0 [(((0 : Int64) ||| ((((gi SRC iA).toInt64) - (lA.toInt64)) <<< ((0 : Int32) &&& 0x3f).toInt64)) ||| ((((gi SRC iB).toInt64) - (lB.toInt64)) <<< (s1 &&& 0x3f).toInt64)), 0] :: oY a [(.ref ai), (.ref aw), (.ref ash), (.ref am), (.ref ao), (.int 1)] :: oI ai [iA, iB, iC] :: oI aw [0, 0, 0] :: oI ash [0, s1, s2] :: oI ao [lA, lB, lC] :: oA asr SRC :: F) := V333.putA 0 rfl W347
  have N347 := Fr.snoc X347 N333 (V333.old 0 rfl)
  have Z347 : n0 ≤ h347.size := by rw [W347.size]; exact Z333
  refine og st347 ?_
  refine og (fun _ => XS.iinc X347.here hx rfl (hb hby d77m5_51) rfl (l' := #[rv a, rv asr, rv at0, iv 2]) rfl) ?_
  refine og (fun _ => XS.goto X347.here hx rfl (pc0 := 54) (pc' := 7) rfl (hb hby d77m5_54) (by decide) (by decide)) ?_
  refine og (fun _ => XS.iloadN X347.here hx rfl (hb hby d77m5_7) rfl) ?_
  refine og (fun _ => XS.aloadN X347.here hx rfl (hb hby d77m5_8) rfl rfl) ?_
  obtain ⟨T348, X348, e348, st348⟩ := getF X347 hx hZ hown (host := "") (Or.inl (ow hw 121 rfl)) Via.refl e347 (V347.fld 1 rfl 0 rfl rfl) (g := (mkF m 9 #[rv a, rv asr, rv at0, iv 2] [(.ref a), (.int 2)])) rfl rfl (hb hby d77m5_9)
  refine og st348 ?_
  obtain ⟨cl349, Ar349, S349⟩ := V347.arr 2 rfl
  have ln349 : cl349.slots.size.toInt32 = (3 : Int32) := by rw [own_len S349]; rfl
  refine og (U' := T348.setTop (mkF m 13 #[rv a, rv asr, rv at0, iv 2] [(.int 3), (.int 2)])) (fun t kt => ?_) ?_
  · refine X348.arraylength hx (by rw [e348]; exact Ar349.1) (State.isArrayOf_alike hZ.alike Ar349.2.1) (g := (mkF m 12 #[rv a, rv asr, rv at0, iv 2] [(.ref ai), (.int 2)])) rfl rfl (hb hby d77m5_12) _ ?_
    rw [ln349]; exact kt
  refine og (fun _ => XS.icmpNo X348.here hx rfl (hb hby d77m5_13) rfl (tlt (by decide : (2 : Int32) < (3 : Int32))).2.1) ?_
  refine og (fun _ => XS.aloadN X348.here hx rfl (hb hby d77m5_16) rfl rfl) ?_
  refine og (fun _ => XS.aloadN X348.here hx rfl (hb hby d77m5_17) rfl rfl) ?_
  obtain ⟨T351, X351, e351, st351⟩ := getF X348 hx hZ hown (host := "") (Or.inl (ow hw 123 rfl)) Via.refl e348 (V347.fld 1 rfl 1 rfl rfl) (g := (mkF m 18 #[rv a, rv asr, rv at0, iv 2] [(.ref a), (.ref at0)])) rfl rfl (hb hby d77m5_18)
  refine og st351 ?_
  refine og (fun _ => XS.iloadN X351.here hx rfl (hb hby d77m5_21) rfl) ?_
  obtain ⟨cl352, Ar352, S352⟩ := V347.arr 3 rfl
  refine og (fun _ => X351.iaload hx (j := (2 : Int32)) (v := (.int 0)) (by rw [e351]; exact Ar352.1) (State.isArrayOf_alike hZ.alike Ar352.2.1) Ar352.2.2 (own_inb S352 2 (by decide) (nb rfl)) (own_get S352 2 (by decide) rfl) (g := (mkF m 22 #[rv a, rv asr, rv at0, iv 2] [(.int 2), (.ref aw), (.ref at0)])) rfl rfl (hb hby d77m5_22) _) ?_
  refine og (U' := T351.setTop (mkF m 24 #[rv a, rv asr, rv at0, iv 2] [(.int 0), (.ref at0), (.int 0), (.ref at0)])) (fun t kt => ?_) ?_
  · jvm_step X351.here [X351.here.top, hx, (hb hby d77m5_23), Value.category]
    exact kt
  obtain ⟨cl353, Ar353, S353⟩ := V347.arr 0 rfl
  refine og (fun _ => X351.laload hx (j := (0 : Int32)) (v := (.long (((0 : Int64) ||| ((((gi SRC iA).toInt64) - (lA.toInt64)) <<< ((0 : Int32) &&& 0x3f).toInt64)) ||| ((((gi SRC iB).toInt64) - (lB.toInt64)) <<< (s1 &&& 0x3f).toInt64)))) (by rw [e351]; exact Ar353.1) (State.isArrayOf_alike hZ.alike Ar353.2.1) Ar353.2.2 (own_inb S353 0 (by decide) (nb rfl)) (own_get S353 0 (by decide) rfl) (g := (mkF m 24 #[rv a, rv asr, rv at0, iv 2] [(.int 0), (.ref at0), (.int 0), (.ref at0)])) rfl rfl (hb hby d77m5_24) _) ?_
  refine og (fun _ => XS.aloadN X351.here hx rfl (hb hby d77m5_25) rfl rfl) ?_
  show OGets p e below _ (T351.setTop (mkF m 26 #[rv a, rv asr, rv at0, iv 2] [(.ref asr), (.long (((0 : Int64) ||| ((((gi SRC iA).toInt64) - (lA.toInt64)) <<< ((0 : Int32) &&& 0x3f).toInt64)) ||| ((((gi SRC iB).toInt64) - (lB.toInt64)) <<< (s1 &&& 0x3f).toInt64))), (.int 0), (.ref at0)]))
  refine og (fun _ => XS.aloadN X351.here hx rfl (hb hby d77m5_26) rfl rfl) ?_
  obtain ⟨T354, X354, e354, st354⟩ := getF X351 hx hZ hown (host := "") (Or.inl (ow hw 121 rfl)) Via.refl e351 (V347.fld 1 rfl 0 rfl rfl) (g := (mkF m 27 #[rv a, rv asr, rv at0, iv 2] [(.ref a), (.ref asr), (.long (((0 : Int64) ||| ((((gi SRC iA).toInt64) - (lA.toInt64)) <<< ((0 : Int32) &&& 0x3f).toInt64)) ||| ((((gi SRC iB).toInt64) - (lB.toInt64)) <<< (s1 &&& 0x3f).toInt64))), (.int 0), (.ref at0)])) rfl rfl (hb hby d77m5_27)
  refine og st354 ?_
  refine og (fun _ => XS.iloadN X354.here hx rfl (hb hby d77m5_30) rfl) ?_
  obtain ⟨cl355, Ar355, S355⟩ := V347.arr 2 rfl
  refine og (fun _ => X354.iaload hx (j := (2 : Int32)) (v := (.int iC)) (by rw [e354]; exact Ar355.1) (State.isArrayOf_alike hZ.alike Ar355.2.1) Ar355.2.2 (own_inb S355 2 (by decide) (nb rfl)) (own_get S355 2 (by decide) rfl) (g := (mkF m 31 #[rv a, rv asr, rv at0, iv 2] [(.int 2), (.ref ai), (.ref asr), (.long (((0 : Int64) ||| ((((gi SRC iA).toInt64) - (lA.toInt64)) <<< ((0 : Int32) &&& 0x3f).toInt64)) ||| ((((gi SRC iB).toInt64) - (lB.toInt64)) <<< (s1 &&& 0x3f).toInt64))), (.int 0), (.ref at0)])) rfl rfl (hb hby d77m5_31) _) ?_
  obtain ⟨cl356, Ar356, S356⟩ := V347.arr 6 rfl
  refine og (fun _ => X354.iaload hx (j := iC) (v := (.int (gi SRC iC))) (by rw [e354]; exact Ar356.1) (State.isArrayOf_alike hZ.alike Ar356.2.1) Ar356.2.2 (own_sin (n := 3) S356 (by simp only [List.length_map, si_len, sj_len, List.length_replicate, hlS]) hiC) (own_sgetI (n := 3) S356 (by simp only [List.length_map, si_len, sj_len, List.length_replicate, hlS]) hiC) (g := (mkF m 32 #[rv a, rv asr, rv at0, iv 2] [(.int iC), (.ref asr), (.long (((0 : Int64) ||| ((((gi SRC iA).toInt64) - (lA.toInt64)) <<< ((0 : Int32) &&& 0x3f).toInt64)) ||| ((((gi SRC iB).toInt64) - (lB.toInt64)) <<< (s1 &&& 0x3f).toInt64))), (.int 0), (.ref at0)])) rfl rfl (hb hby d77m5_32) _) ?_
  refine og (fun _ => XS.i2l X354.here hx rfl (hb hby d77m5_33) rfl) ?_
  refine og (fun _ => XS.aloadN X354.here hx rfl (hb hby d77m5_34) rfl rfl) ?_
  show OGets p e below _ (T354.setTop (mkF m 35 #[rv a, rv asr, rv at0, iv 2] [(.ref a), (.long ((gi SRC iC).toInt64)), (.long (((0 : Int64) ||| ((((gi SRC iA).toInt64) - (lA.toInt64)) <<< ((0 : Int32) &&& 0x3f).toInt64)) ||| ((((gi SRC iB).toInt64) - (lB.toInt64)) <<< (s1 &&& 0x3f).toInt64))), (.int 0), (.ref at0)]))
  obtain ⟨T357, X357, e357, st357⟩ := getF X354 hx hZ hown (host := "") (Or.inl (ow hw 130 rfl)) Via.refl e354 (V347.fld 1 rfl 4 rfl rfl) (g := (mkF m 35 #[rv a, rv asr, rv at0, iv 2] [(.ref a), (.long ((gi SRC iC).toInt64)), (.long (((0 : Int64) ||| ((((gi SRC iA).toInt64) - (lA.toInt64)) <<< ((0 : Int32) &&& 0x3f).toInt64)) ||| ((((gi SRC iB).toInt64) - (lB.toInt64)) <<< (s1 &&& 0x3f).toInt64))), (.int 0), (.ref at0)])) rfl rfl (hb hby d77m5_35)
  refine og st357 ?_
  refine og (fun _ => XS.iloadN X357.here hx rfl (hb hby d77m5_38) rfl) ?_
  obtain ⟨cl358, Ar358, S358⟩ := V347.arr 5 rfl
  refine og (fun _ => X357.iaload hx (j := (2 : Int32)) (v := (.int lC)) (by rw [e357]; exact Ar358.1) (State.isArrayOf_alike hZ.alike Ar358.2.1) Ar358.2.2 (own_inb S358 2 (by decide) (nb rfl)) (own_get S358 2 (by decide) rfl) (g := (mkF m 39 #[rv a, rv asr, rv at0, iv 2] [(.int 2), (.ref ao), (.long ((gi SRC iC).toInt64)), (.long (((0 : Int64) ||| ((((gi SRC iA).toInt64) - (lA.toInt64)) <<< ((0 : Int32) &&& 0x3f).toInt64)) ||| ((((gi SRC iB).toInt64) - (lB.toInt64)) <<< (s1 &&& 0x3f).toInt64))), (.int 0), (.ref at0)])) rfl rfl (hb hby d77m5_39) _) ?_
  refine og (fun _ => XS.i2l X357.here hx rfl (hb hby d77m5_40) rfl) ?_
  refine og (fun _ => XS.lsub X357.here hx rfl (hb hby d77m5_41) rfl) ?_
  refine og (fun _ => XS.aloadN X357.here hx rfl (hb hby d77m5_42) rfl rfl) ?_
  show OGets p e below _ (T357.setTop (mkF m 43 #[rv a, rv asr, rv at0, iv 2] [(.ref a), (.long (((gi SRC iC).toInt64) - (lC.toInt64))), (.long (((0 : Int64) ||| ((((gi SRC iA).toInt64) - (lA.toInt64)) <<< ((0 : Int32) &&& 0x3f).toInt64)) ||| ((((gi SRC iB).toInt64) - (lB.toInt64)) <<< (s1 &&& 0x3f).toInt64))), (.int 0), (.ref at0)]))
  obtain ⟨T359, X359, e359, st359⟩ := getF X357 hx hZ hown (host := "") (Or.inl (ow hw 125 rfl)) Via.refl e357 (V347.fld 1 rfl 2 rfl rfl) (g := (mkF m 43 #[rv a, rv asr, rv at0, iv 2] [(.ref a), (.long (((gi SRC iC).toInt64) - (lC.toInt64))), (.long (((0 : Int64) ||| ((((gi SRC iA).toInt64) - (lA.toInt64)) <<< ((0 : Int32) &&& 0x3f).toInt64)) ||| ((((gi SRC iB).toInt64) - (lB.toInt64)) <<< (s1 &&& 0x3f).toInt64))), (.int 0), (.ref at0)])) rfl rfl (hb hby d77m5_43)
  refine og st359 ?_
  refine og (fun _ => XS.iloadN X359.here hx rfl (hb hby d77m5_46) rfl) ?_
  obtain ⟨cl360, Ar360, S360⟩ := V347.arr 4 rfl
  refine og (fun _ => X359.iaload hx (j := (2 : Int32)) (v := (.int s2)) (by rw [e359]; exact Ar360.1) (State.isArrayOf_alike hZ.alike Ar360.2.1) Ar360.2.2 (own_inb S360 2 (by decide) (nb rfl)) (own_get S360 2 (by decide) rfl) (g := (mkF m 47 #[rv a, rv asr, rv at0, iv 2] [(.int 2), (.ref ash), (.long (((gi SRC iC).toInt64) - (lC.toInt64))), (.long (((0 : Int64) ||| ((((gi SRC iA).toInt64) - (lA.toInt64)) <<< ((0 : Int32) &&& 0x3f).toInt64)) ||| ((((gi SRC iB).toInt64) - (lB.toInt64)) <<< (s1 &&& 0x3f).toInt64))), (.int 0), (.ref at0)])) rfl rfl (hb hby d77m5_47) _) ?_
  refine og (fun _ => XS.lshl X359.here hx rfl (hb hby d77m5_48) rfl) ?_
  refine og (fun _ => XS.lor X359.here hx rfl (hb hby d77m5_49) rfl) ?_
  obtain ⟨cl361, Ar361, S361⟩ := V347.arr 0 rfl
  obtain ⟨T361, h361, X361, e361, W361', st361⟩ := stJ X359 hx hZ e359 Ar361 (j := (0 : Int32)) (own_inb S361 0 (by decide) (nb rfl)) (g := (mkF m 50 #[rv a, rv asr, rv at0, iv 2] [(.long ((((0 : Int64) ||| ((((gi SRC iA).toInt64) - (lA.toInt64)) <<< ((0 : Int32) &&& 0x3f).toInt64)) ||| ((((gi SRC iB).toInt64) - (lB.toInt64)) <<< (s1 &&& 0x3f).toInt64)) ||| ((((gi SRC iC).toInt64) - (lC.toInt64)) <<< (s2 &&& 0x3f).toInt64))), (.int 0), (.ref at0)])) rfl rfl (hb hby d77m5_50)
  have W361 := own_wr (vs := []) 0 (by decide) W361'
  have V361 : OView Z n0 h361 (oK at0 [((((0 : Int64) ||| ((((gi SRC iA).toInt64) - (lA.toInt64)) <<< ((0 : Int32) &&& 0x3f).toInt64)) ||| ((((gi SRC iB).toInt64) - (lB.toInt64)) <<< (s1 &&& 0x3f).toInt64)) ||| ((((gi SRC iC).toInt64) - (lC.toInt64)) <<< (s2 &&& 0x3f).toInt64)), 0] :: oY a [(.ref ai), (.ref aw), (.ref ash), (.ref am), (.ref ao), (.int 1)] :: oI ai [iA, iB, iC] :: oI aw [0, 0, 0] :: oI ash [0, s1, s2] :: oI ao [lA, lB, lC] :: oA asr SRC :: F) := V347.putA 0 rfl W361
  have N361 := Fr.snoc X361 N347 (V347.old 0 rfl)
  have Z361 : n0 ≤ h361.size := by rw [W361.size]; exact Z347
  refine og st361 ?_
  refine og (fun _ => XS.iinc X361.here hx rfl (hb hby d77m5_51) rfl (l' := #[rv a, rv asr, rv at0, iv 3]) rfl) ?_
  refine og (fun _ => XS.goto X361.here hx rfl (pc0 := 54) (pc' := 7) rfl (hb hby d77m5_54) (by decide) (by decide)) ?_
  refine og (fun _ => XS.iloadN X361.here hx rfl (hb hby d77m5_7) rfl) ?_
  refine og (fun _ => XS.aloadN X361.here hx rfl (hb hby d77m5_8) rfl rfl) ?_
  obtain ⟨T362, X362, e362, st362⟩ := getF X361 hx hZ hown (host := "") (Or.inl (ow hw 121 rfl)) Via.refl e361 (V361.fld 1 rfl 0 rfl rfl) (g := (mkF m 9 #[rv a, rv asr, rv at0, iv 3] [(.ref a), (.int 3)])) rfl rfl (hb hby d77m5_9)
  refine og st362 ?_
  obtain ⟨cl363, Ar363, S363⟩ := V361.arr 2 rfl
  have ln363 : cl363.slots.size.toInt32 = (3 : Int32) := by rw [own_len S363]; rfl
  refine og (U' := T362.setTop (mkF m 13 #[rv a, rv asr, rv at0, iv 3] [(.int 3), (.int 3)])) (fun t kt => ?_) ?_
  · refine X362.arraylength hx (by rw [e362]; exact Ar363.1) (State.isArrayOf_alike hZ.alike Ar363.2.1) (g := (mkF m 12 #[rv a, rv asr, rv at0, iv 3] [(.ref ai), (.int 3)])) rfl rfl (hb hby d77m5_12) _ ?_
    rw [ln363]; exact kt
  refine og (fun _ => XS.icmpYes X362.here hx rfl (pc0 := 13) (pc' := 57) rfl (hb hby d77m5_13) rfl (flt (by decide : ¬ ((3 : Int32) < (3 : Int32)))).2.1 (by decide) (by decide)) ?_
  refine OGets.retV X362 hx hlk Bd.returns (hb hby d77m5_57) (nb rfl) (nb rfl) ?_
  have Vp365 : OView Z _ h361 (oY a [(.ref ai), (.ref aw), (.ref ash), (.ref am), (.ref ao), (.int 1)] :: oI ai [iA, iB, iC] :: oI aw [0, 0, 0] :: oI ash [0, s1, s2] :: oI ao [lA, lB, lC] :: oA asr SRC :: oK at0 [((((0 : Int64) ||| ((((gi SRC iA).toInt64) - (lA.toInt64)) <<< ((0 : Int32) &&& 0x3f).toInt64)) ||| ((((gi SRC iB).toInt64) - (lB.toInt64)) <<< (s1 &&& 0x3f).toInt64)) ||| ((((gi SRC iC).toInt64) - (lC.toInt64)) <<< (s2 &&& 0x3f).toInt64)), 0] :: F) := ((((((V361.bring 6 rfl).bring 6 rfl).bring 6 rfl).bring 6 rfl).bring 6 rfl).bring 6 rfl)
  rw [e362]
  exact ⟨rfl, N361, _, _, rfl, rfl, Vp365⟩
theorem ef_pack1 (m : MethodId) (x0 : Addr) (x1 : Addr) (x2 : Addr) : entryFrame m #[(.ref x0), (.ref x1), (.ref x2)] 4 = mkF m 0 #[.val (.ref x0), .val (.ref x1), .val (.ref x2), .unset] [] := by first | (simp [entryFrame, mkF, argsToLocals, Value.category]; done) | rfl
def Q_pack1 (Z : State) (a : Addr) (ai : Addr) (aw : Addr) (ash : Addr) (am : Addr) (ao : Addr) (asr : Addr) (at0 : Addr) (iA : Int32) (iB : Int32) (iC : Int32) (s1 : Int32) (s2 : Int32) (lA : Int32) (lB : Int32) (lC : Int32) (SRC : List Int32) (h0 : Heap) (n0 : Nat) (F : List (Addr × OObj)) (v : Option Value) (h : Heap) (L : List Loc) : Prop := v = none ∧ Fr n0 L ∧ ∃ T0 T1 : Int64, T0 = (((0 : Int64) ||| shl (enc (gi SRC iA) lA) 0) ||| shl (enc (gi SRC iB) lB) s1) ∧ T1 = ((0 : Int64) ||| shl (enc (gi SRC iC) lC) 0) ∧ OView Z n0 h (oY a [(.ref ai), (.ref aw), (.ref ash), (.ref am), (.ref ao), (.int (2 : Int32))] :: oI ai [iA, iB, iC] :: oI aw [(0 : Int32), (0 : Int32), (1 : Int32)] :: oI ash [(0 : Int32), s1, (0 : Int32)] :: oI ao [lA, lB, lC] :: oA asr SRC :: oK at0 [T0, T1] :: F)
set_option maxRecDepth 65536 in
set_option maxHeartbeats 40000000 in
theorem rm_pack1 (l : Launch) (Z : State) (a0 : Array Value) (hw : ∀ d ∈ tables_1, d.before a0 Z = true) (ws : List Jvm.Cond) (a : Addr) (ai : Addr) (aw : Addr) (ash : Addr) (am : Addr) (ao : Addr) (asr : Addr) (at0 : Addr) (iA : Int32) (iB : Int32) (iC : Int32) (s1 : Int32) (s2 : Int32) (lA : Int32) (lB : Int32) (lC : Int32) (SRC : List Int32) (h0 : Heap) (n0 : Nat) (F : List (Addr × OObj)) (Z0 : n0 ≤ h0.size) (hlS : SRC.length = 3) (hiA : inb 3 iA) (hiB : inb 3 iB) (hiC : inb 3 iC) (V0 : OView Z n0 h0 (oY a [(.ref ai), (.ref aw), (.ref ash), (.ref am), (.ref ao), (.int 2)] :: oI ai [iA, iB, iC] :: oI aw [0, 0, 1] :: oI ash [0, s1, 0] :: oI ao [lA, lB, lC] :: oA asr SRC :: oK at0 [0, 0] :: F)) :
    MetFree l (⟨"com/example/inya/inya/StateLayout", "pack", "([I[J)V"⟩ : MethodName) (head1 (Jvm.Cond.code (⟨"com/example/inya/inya/StateLayout", "pack", "([I[J)V"⟩ : MethodName) prog_77_method_5_code 4 none :: ws) ({ frames := 1, cells := 0, slots := 0, locals := 16 } : Room)) (fun a_ U => a_ = #[(.ref a), (.ref asr), (.ref at0)] ∧ Z.Warmed39 U.vm ∧ U.heap = h0) (fun _ _ _ _ _ => True) (fun _ U o U' => ∃ v L, o = .returned v ∧ Q_pack1 Z a ai aw ash am ao asr at0 iA iB iC s1 s2 lA lB lC SRC h0 n0 F v U'.heap L ∧ FrameEnd U o U' L ({ frames := 1, cells := 0, slots := 0, locals := 16 } : Room).cells ({ frames := 1, cells := 0, slots := 0, locals := 16 } : Room).slots) := by
  refine MetFree.of_bodySF (plainFor_of_name pn_20) hisR ?_
  intro p e s m args below meth c s₁ Bd hml0 hP hK
  obtain ⟨rfl, hZ, hh⟩ := hP
  have hx := Bd.exec
  have hby := Bd.bytes
  have hlk : meth.locks = false := Bd.notSynchronized
  have hml : c.maxLocals = 4 := hml0
  have hown : s.vm.findClass "com/example/inya/inya/StateLayout" = some m.cls := findClass_of_methodNamed Bd.named
  have hnm := (name_of_methodNamed Bd.named Bd.method).1
  have X0 : Stand p l e ({ frames := 1, cells := 0, slots := 0, locals := 16 } : Room) s m #[(.ref a), (.ref asr), (.ref at0)] below meth c s₁ [] 0 0 := Stand.of_body Bd
  have e0 : s₁.heap = h0 := by rw [← hh, Bd.state]; rfl
  have N0 := Fr.nil n0
  show OGets p e below (OLeaves s (Q_pack1 Z a ai aw ash am ao asr at0 iA iB iC s1 s2 lA lB lC SRC h0 n0 F ) ({ frames := 1, cells := 0, slots := 0, locals := 16 } : Room).cells ({ frames := 1, cells := 0, slots := 0, locals := 16 } : Room).slots) _
  refine OGets.enter (ef_pack1 m a asr at0) ?_
  show OGets p e below _ (s₁.setTop (mkF m 0 #[rv a, rv asr, rv at0, uv] []))
  refine og (fun _ => XS.aloadN X0.here hx rfl (hb hby d77m5_0) rfl rfl) ?_
  refine og (fun _ => XS.lconst X0.here hx rfl (hb hby d77m5_1)) ?_
  have V366_ : OView Z _ h0 (oK at0 [0, 0] :: oY a [(.ref ai), (.ref aw), (.ref ash), (.ref am), (.ref ao), (.int 2)] :: oI ai [iA, iB, iC] :: oI aw [0, 0, 1] :: oI ash [0, s1, 0] :: oI ao [lA, lB, lC] :: oA asr SRC :: F) := (V0.bring 6 rfl)
  obtain ⟨_, _, ⟨T366, L366, k366, n366⟩, -, X366, ⟨Lc366, hQ366, l366, y366, z366⟩, st366⟩ := Jvm.LawKit.callS X0 hx (y := (⟨"java/util/Arrays", "fill", "([JJ)V"⟩ : MethodName)) hown (mvT hZ (ow hw 191 rfl)) (mvT hZ (ow hw 192 rfl)) (mvT hZ (ow hw 193 rfl)) (mvT hZ (ow hw 194 rfl)) (by decide) (backOf (W := 0) (rm_fil l Z a0 hw [] at0 h0 n0 _ Z0  V366_) hZ (ow hw 194 rfl) (ow hw 193 rfl) (by decide) (by decide)) (g := (mkF m 2 #[rv a, rv asr, rv at0, uv] [(.long (0 : Int64)), (.ref at0)])) rfl (by rw [hml]; rfl) (argsL := [(.ref at0), (.long (0 : Int64))]) (rest := []) (lenOf pd_26 rfl) rfl (by show 2 * 0 + _ ≤ _; exact Nat.le_of_eq rfl) (hb hby d77m5_2) (fun _ _ => ⟨rfl, e0, nb rfl, nb rfl⟩)
  dsimp only [Pt.U, Pt.locs, Pt.cells, Pt.slots] at X366 l366 y366 z366 st366 hQ366
  rw [l366, y366, z366] at X366
  obtain ⟨rfl, N366q, V366⟩ := hQ366
  have N366 := Fr.app N0 N366q
  have V366v : OView Z n0 T366.heap (oK at0 [0, 0] :: oY a [(.ref ai), (.ref aw), (.ref ash), (.ref am), (.ref ao), (.int 2)] :: oI ai [iA, iB, iC] :: oI aw [0, 0, 1] :: oI ash [0, s1, 0] :: oI ao [lA, lB, lC] :: oA asr SRC :: F) := V366
  have Z366 : n0 ≤ T366.heap.size := V366v.big 0 rfl
  refine og st366 ?_
  refine og (fun _ => XS.iconst X366.here hx rfl (hb hby d77m5_5)) ?_
  refine og (fun _ => XS.istoreN X366.here hx rfl (hb hby d77m5_6) rfl (l' := #[rv a, rv asr, rv at0, iv 0]) rfl) ?_
  refine og (fun _ => XS.iloadN X366.here hx rfl (hb hby d77m5_7) rfl) ?_
  refine og (fun _ => XS.aloadN X366.here hx rfl (hb hby d77m5_8) rfl rfl) ?_
  obtain ⟨T367, X367, e367, st367⟩ := getF X366 hx hZ hown (host := "") (Or.inl (ow hw 121 rfl)) Via.refl rfl (V366v.fld 1 rfl 0 rfl rfl) (g := (mkF m 9 #[rv a, rv asr, rv at0, iv 0] [(.ref a), (.int 0)])) rfl rfl (hb hby d77m5_9)
  refine og st367 ?_
  obtain ⟨cl368, Ar368, S368⟩ := V366v.arr 2 rfl
  have ln368 : cl368.slots.size.toInt32 = (3 : Int32) := by rw [own_len S368]; rfl
  refine og (U' := T367.setTop (mkF m 13 #[rv a, rv asr, rv at0, iv 0] [(.int 3), (.int 0)])) (fun t kt => ?_) ?_
  · refine X367.arraylength hx (by rw [e367]; exact Ar368.1) (State.isArrayOf_alike hZ.alike Ar368.2.1) (g := (mkF m 12 #[rv a, rv asr, rv at0, iv 0] [(.ref ai), (.int 0)])) rfl rfl (hb hby d77m5_12) _ ?_
    rw [ln368]; exact kt
  refine og (fun _ => XS.icmpNo X367.here hx rfl (hb hby d77m5_13) rfl (tlt (by decide : (0 : Int32) < (3 : Int32))).2.1) ?_
  refine og (fun _ => XS.aloadN X367.here hx rfl (hb hby d77m5_16) rfl rfl) ?_
  refine og (fun _ => XS.aloadN X367.here hx rfl (hb hby d77m5_17) rfl rfl) ?_
  obtain ⟨T370, X370, e370, st370⟩ := getF X367 hx hZ hown (host := "") (Or.inl (ow hw 123 rfl)) Via.refl e367 (V366v.fld 1 rfl 1 rfl rfl) (g := (mkF m 18 #[rv a, rv asr, rv at0, iv 0] [(.ref a), (.ref at0)])) rfl rfl (hb hby d77m5_18)
  refine og st370 ?_
  refine og (fun _ => XS.iloadN X370.here hx rfl (hb hby d77m5_21) rfl) ?_
  obtain ⟨cl371, Ar371, S371⟩ := V366v.arr 3 rfl
  refine og (fun _ => X370.iaload hx (j := (0 : Int32)) (v := (.int 0)) (by rw [e370]; exact Ar371.1) (State.isArrayOf_alike hZ.alike Ar371.2.1) Ar371.2.2 (own_inb S371 0 (by decide) (nb rfl)) (own_get S371 0 (by decide) rfl) (g := (mkF m 22 #[rv a, rv asr, rv at0, iv 0] [(.int 0), (.ref aw), (.ref at0)])) rfl rfl (hb hby d77m5_22) _) ?_
  refine og (U' := T370.setTop (mkF m 24 #[rv a, rv asr, rv at0, iv 0] [(.int 0), (.ref at0), (.int 0), (.ref at0)])) (fun t kt => ?_) ?_
  · jvm_step X370.here [X370.here.top, hx, (hb hby d77m5_23), Value.category]
    exact kt
  obtain ⟨cl372, Ar372, S372⟩ := V366v.arr 0 rfl
  refine og (fun _ => X370.laload hx (j := (0 : Int32)) (v := (.long (0 : Int64))) (by rw [e370]; exact Ar372.1) (State.isArrayOf_alike hZ.alike Ar372.2.1) Ar372.2.2 (own_inb S372 0 (by decide) (nb rfl)) (own_get S372 0 (by decide) rfl) (g := (mkF m 24 #[rv a, rv asr, rv at0, iv 0] [(.int 0), (.ref at0), (.int 0), (.ref at0)])) rfl rfl (hb hby d77m5_24) _) ?_
  refine og (fun _ => XS.aloadN X370.here hx rfl (hb hby d77m5_25) rfl rfl) ?_
  show OGets p e below _ (T370.setTop (mkF m 26 #[rv a, rv asr, rv at0, iv 0] [(.ref asr), (.long (0 : Int64)), (.int 0), (.ref at0)]))
  refine og (fun _ => XS.aloadN X370.here hx rfl (hb hby d77m5_26) rfl rfl) ?_
  obtain ⟨T373, X373, e373, st373⟩ := getF X370 hx hZ hown (host := "") (Or.inl (ow hw 121 rfl)) Via.refl e370 (V366v.fld 1 rfl 0 rfl rfl) (g := (mkF m 27 #[rv a, rv asr, rv at0, iv 0] [(.ref a), (.ref asr), (.long (0 : Int64)), (.int 0), (.ref at0)])) rfl rfl (hb hby d77m5_27)
  refine og st373 ?_
  refine og (fun _ => XS.iloadN X373.here hx rfl (hb hby d77m5_30) rfl) ?_
  obtain ⟨cl374, Ar374, S374⟩ := V366v.arr 2 rfl
  refine og (fun _ => X373.iaload hx (j := (0 : Int32)) (v := (.int iA)) (by rw [e373]; exact Ar374.1) (State.isArrayOf_alike hZ.alike Ar374.2.1) Ar374.2.2 (own_inb S374 0 (by decide) (nb rfl)) (own_get S374 0 (by decide) rfl) (g := (mkF m 31 #[rv a, rv asr, rv at0, iv 0] [(.int 0), (.ref ai), (.ref asr), (.long (0 : Int64)), (.int 0), (.ref at0)])) rfl rfl (hb hby d77m5_31) _) ?_
  obtain ⟨cl375, Ar375, S375⟩ := V366v.arr 6 rfl
  refine og (fun _ => X373.iaload hx (j := iA) (v := (.int (gi SRC iA))) (by rw [e373]; exact Ar375.1) (State.isArrayOf_alike hZ.alike Ar375.2.1) Ar375.2.2 (own_sin (n := 3) S375 (by simp only [List.length_map, si_len, sj_len, List.length_replicate, hlS]) hiA) (own_sgetI (n := 3) S375 (by simp only [List.length_map, si_len, sj_len, List.length_replicate, hlS]) hiA) (g := (mkF m 32 #[rv a, rv asr, rv at0, iv 0] [(.int iA), (.ref asr), (.long (0 : Int64)), (.int 0), (.ref at0)])) rfl rfl (hb hby d77m5_32) _) ?_
  refine og (fun _ => XS.i2l X373.here hx rfl (hb hby d77m5_33) rfl) ?_
  refine og (fun _ => XS.aloadN X373.here hx rfl (hb hby d77m5_34) rfl rfl) ?_
  show OGets p e below _ (T373.setTop (mkF m 35 #[rv a, rv asr, rv at0, iv 0] [(.ref a), (.long ((gi SRC iA).toInt64)), (.long (0 : Int64)), (.int 0), (.ref at0)]))
  obtain ⟨T376, X376, e376, st376⟩ := getF X373 hx hZ hown (host := "") (Or.inl (ow hw 130 rfl)) Via.refl e373 (V366v.fld 1 rfl 4 rfl rfl) (g := (mkF m 35 #[rv a, rv asr, rv at0, iv 0] [(.ref a), (.long ((gi SRC iA).toInt64)), (.long (0 : Int64)), (.int 0), (.ref at0)])) rfl rfl (hb hby d77m5_35)
  refine og st376 ?_
  refine og (fun _ => XS.iloadN X376.here hx rfl (hb hby d77m5_38) rfl) ?_
  obtain ⟨cl377, Ar377, S377⟩ := V366v.arr 5 rfl
  refine og (fun _ => X376.iaload hx (j := (0 : Int32)) (v := (.int lA)) (by rw [e376]; exact Ar377.1) (State.isArrayOf_alike hZ.alike Ar377.2.1) Ar377.2.2 (own_inb S377 0 (by decide) (nb rfl)) (own_get S377 0 (by decide) rfl) (g := (mkF m 39 #[rv a, rv asr, rv at0, iv 0] [(.int 0), (.ref ao), (.long ((gi SRC iA).toInt64)), (.long (0 : Int64)), (.int 0), (.ref at0)])) rfl rfl (hb hby d77m5_39) _) ?_
  refine og (fun _ => XS.i2l X376.here hx rfl (hb hby d77m5_40) rfl) ?_
  refine og (fun _ => XS.lsub X376.here hx rfl (hb hby d77m5_41) rfl) ?_
  refine og (fun _ => XS.aloadN X376.here hx rfl (hb hby d77m5_42) rfl rfl) ?_
  show OGets p e below _ (T376.setTop (mkF m 43 #[rv a, rv asr, rv at0, iv 0] [(.ref a), (.long (((gi SRC iA).toInt64) - (lA.toInt64))), (.long (0 : Int64)), (.int 0), (.ref at0)]))
  obtain ⟨T378, X378, e378, st378⟩ := getF X376 hx hZ hown (host := "") (Or.inl (ow hw 125 rfl)) Via.refl e376 (V366v.fld 1 rfl 2 rfl rfl) (g := (mkF m 43 #[rv a, rv asr, rv at0, iv 0] [(.ref a), (.long (((gi SRC iA).toInt64) - (lA.toInt64))), (.long (0 : Int64)), (.int 0), (.ref at0)])) rfl rfl (hb hby d77m5_43)
  refine og st378 ?_
  refine og (fun _ => XS.iloadN X378.here hx rfl (hb hby d77m5_46) rfl) ?_
  obtain ⟨cl379, Ar379, S379⟩ := V366v.arr 4 rfl
  refine og (fun _ => X378.iaload hx (j := (0 : Int32)) (v := (.int 0)) (by rw [e378]; exact Ar379.1) (State.isArrayOf_alike hZ.alike Ar379.2.1) Ar379.2.2 (own_inb S379 0 (by decide) (nb rfl)) (own_get S379 0 (by decide) rfl) (g := (mkF m 47 #[rv a, rv asr, rv at0, iv 0] [(.int 0), (.ref ash), (.long (((gi SRC iA).toInt64) - (lA.toInt64))), (.long (0 : Int64)), (.int 0), (.ref at0)])) rfl rfl (hb hby d77m5_47) _) ?_
  refine og (fun _ => XS.lshl X378.here hx rfl (hb hby d77m5_48) rfl) ?_
  refine og (fun _ => XS.lor X378.here hx rfl (hb hby d77m5_49) rfl) ?_
  obtain ⟨cl380, Ar380, S380⟩ := V366v.arr 0 rfl
  obtain ⟨T380, h380, X380, e380, W380', st380⟩ := stJ X378 hx hZ e378 Ar380 (j := (0 : Int32)) (own_inb S380 0 (by decide) (nb rfl)) (g := (mkF m 50 #[rv a, rv asr, rv at0, iv 0] [(.long ((0 : Int64) ||| ((((gi SRC iA).toInt64) - (lA.toInt64)) <<< ((0 : Int32) &&& 0x3f).toInt64))), (.int 0), (.ref at0)])) rfl rfl (hb hby d77m5_50)
  have W380 := own_wr (vs := []) 0 (by decide) W380'
  have V380 : OView Z n0 h380 (oK at0 [((0 : Int64) ||| ((((gi SRC iA).toInt64) - (lA.toInt64)) <<< ((0 : Int32) &&& 0x3f).toInt64)), 0] :: oY a [(.ref ai), (.ref aw), (.ref ash), (.ref am), (.ref ao), (.int 2)] :: oI ai [iA, iB, iC] :: oI aw [0, 0, 1] :: oI ash [0, s1, 0] :: oI ao [lA, lB, lC] :: oA asr SRC :: F) := V366v.putA 0 rfl W380
  have N380 := Fr.snoc X380 N366 (V366v.old 0 rfl)
  have Z380 : n0 ≤ h380.size := by rw [W380.size]; exact Z366
  refine og st380 ?_
  refine og (fun _ => XS.iinc X380.here hx rfl (hb hby d77m5_51) rfl (l' := #[rv a, rv asr, rv at0, iv 1]) rfl) ?_
  refine og (fun _ => XS.goto X380.here hx rfl (pc0 := 54) (pc' := 7) rfl (hb hby d77m5_54) (by decide) (by decide)) ?_
  refine og (fun _ => XS.iloadN X380.here hx rfl (hb hby d77m5_7) rfl) ?_
  refine og (fun _ => XS.aloadN X380.here hx rfl (hb hby d77m5_8) rfl rfl) ?_
  obtain ⟨T381, X381, e381, st381⟩ := getF X380 hx hZ hown (host := "") (Or.inl (ow hw 121 rfl)) Via.refl e380 (V380.fld 1 rfl 0 rfl rfl) (g := (mkF m 9 #[rv a, rv asr, rv at0, iv 1] [(.ref a), (.int 1)])) rfl rfl (hb hby d77m5_9)
  refine og st381 ?_
  obtain ⟨cl382, Ar382, S382⟩ := V380.arr 2 rfl
  have ln382 : cl382.slots.size.toInt32 = (3 : Int32) := by rw [own_len S382]; rfl
  refine og (U' := T381.setTop (mkF m 13 #[rv a, rv asr, rv at0, iv 1] [(.int 3), (.int 1)])) (fun t kt => ?_) ?_
  · refine X381.arraylength hx (by rw [e381]; exact Ar382.1) (State.isArrayOf_alike hZ.alike Ar382.2.1) (g := (mkF m 12 #[rv a, rv asr, rv at0, iv 1] [(.ref ai), (.int 1)])) rfl rfl (hb hby d77m5_12) _ ?_
    rw [ln382]; exact kt
  refine og (fun _ => XS.icmpNo X381.here hx rfl (hb hby d77m5_13) rfl (tlt (by decide : (1 : Int32) < (3 : Int32))).2.1) ?_
  refine og (fun _ => XS.aloadN X381.here hx rfl (hb hby d77m5_16) rfl rfl) ?_
  refine og (fun _ => XS.aloadN X381.here hx rfl (hb hby d77m5_17) rfl rfl) ?_
  obtain ⟨T384, X384, e384, st384⟩ := getF X381 hx hZ hown (host := "") (Or.inl (ow hw 123 rfl)) Via.refl e381 (V380.fld 1 rfl 1 rfl rfl) (g := (mkF m 18 #[rv a, rv asr, rv at0, iv 1] [(.ref a), (.ref at0)])) rfl rfl (hb hby d77m5_18)
  refine og st384 ?_
  refine og (fun _ => XS.iloadN X384.here hx rfl (hb hby d77m5_21) rfl) ?_
  obtain ⟨cl385, Ar385, S385⟩ := V380.arr 3 rfl
  refine og (fun _ => X384.iaload hx (j := (1 : Int32)) (v := (.int 0)) (by rw [e384]; exact Ar385.1) (State.isArrayOf_alike hZ.alike Ar385.2.1) Ar385.2.2 (own_inb S385 1 (by decide) (nb rfl)) (own_get S385 1 (by decide) rfl) (g := (mkF m 22 #[rv a, rv asr, rv at0, iv 1] [(.int 1), (.ref aw), (.ref at0)])) rfl rfl (hb hby d77m5_22) _) ?_
  refine og (U' := T384.setTop (mkF m 24 #[rv a, rv asr, rv at0, iv 1] [(.int 0), (.ref at0), (.int 0), (.ref at0)])) (fun t kt => ?_) ?_
  · jvm_step X384.here [X384.here.top, hx, (hb hby d77m5_23), Value.category]
    exact kt
  obtain ⟨cl386, Ar386, S386⟩ := V380.arr 0 rfl
  refine og (fun _ => X384.laload hx (j := (0 : Int32)) (v := (.long ((0 : Int64) ||| ((((gi SRC iA).toInt64) - (lA.toInt64)) <<< ((0 : Int32) &&& 0x3f).toInt64)))) (by rw [e384]; exact Ar386.1) (State.isArrayOf_alike hZ.alike Ar386.2.1) Ar386.2.2 (own_inb S386 0 (by decide) (nb rfl)) (own_get S386 0 (by decide) rfl) (g := (mkF m 24 #[rv a, rv asr, rv at0, iv 1] [(.int 0), (.ref at0), (.int 0), (.ref at0)])) rfl rfl (hb hby d77m5_24) _) ?_
  refine og (fun _ => XS.aloadN X384.here hx rfl (hb hby d77m5_25) rfl rfl) ?_
  show OGets p e below _ (T384.setTop (mkF m 26 #[rv a, rv asr, rv at0, iv 1] [(.ref asr), (.long ((0 : Int64) ||| ((((gi SRC iA).toInt64) - (lA.toInt64)) <<< ((0 : Int32) &&& 0x3f).toInt64))), (.int 0), (.ref at0)]))
  refine og (fun _ => XS.aloadN X384.here hx rfl (hb hby d77m5_26) rfl rfl) ?_
  obtain ⟨T387, X387, e387, st387⟩ := getF X384 hx hZ hown (host := "") (Or.inl (ow hw 121 rfl)) Via.refl e384 (V380.fld 1 rfl 0 rfl rfl) (g := (mkF m 27 #[rv a, rv asr, rv at0, iv 1] [(.ref a), (.ref asr), (.long ((0 : Int64) ||| ((((gi SRC iA).toInt64) - (lA.toInt64)) <<< ((0 : Int32) &&& 0x3f).toInt64))), (.int 0), (.ref at0)])) rfl rfl (hb hby d77m5_27)
  refine og st387 ?_
  refine og (fun _ => XS.iloadN X387.here hx rfl (hb hby d77m5_30) rfl) ?_
  obtain ⟨cl388, Ar388, S388⟩ := V380.arr 2 rfl
  refine og (fun _ => X387.iaload hx (j := (1 : Int32)) (v := (.int iB)) (by rw [e387]; exact Ar388.1) (State.isArrayOf_alike hZ.alike Ar388.2.1) Ar388.2.2 (own_inb S388 1 (by decide) (nb rfl)) (own_get S388 1 (by decide) rfl) (g := (mkF m 31 #[rv a, rv asr, rv at0, iv 1] [(.int 1), (.ref ai), (.ref asr), (.long ((0 : Int64) ||| ((((gi SRC iA).toInt64) - (lA.toInt64)) <<< ((0 : Int32) &&& 0x3f).toInt64))), (.int 0), (.ref at0)])) rfl rfl (hb hby d77m5_31) _) ?_
  obtain ⟨cl389, Ar389, S389⟩ := V380.arr 6 rfl
  refine og (fun _ => X387.iaload hx (j := iB) (v := (.int (gi SRC iB))) (by rw [e387]; exact Ar389.1) (State.isArrayOf_alike hZ.alike Ar389.2.1) Ar389.2.2 (own_sin (n := 3) S389 (by simp only [List.length_map, si_len, sj_len, List.length_replicate, hlS]) hiB) (own_sgetI (n := 3) S389 (by simp only [List.length_map, si_len, sj_len, List.length_replicate, hlS]) hiB) (g := (mkF m 32 #[rv a, rv asr, rv at0, iv 1] [(.int iB), (.ref asr), (.long ((0 : Int64) ||| ((((gi SRC iA).toInt64) - (lA.toInt64)) <<< ((0 : Int32) &&& 0x3f).toInt64))), (.int 0), (.ref at0)])) rfl rfl (hb hby d77m5_32) _) ?_
  refine og (fun _ => XS.i2l X387.here hx rfl (hb hby d77m5_33) rfl) ?_
  refine og (fun _ => XS.aloadN X387.here hx rfl (hb hby d77m5_34) rfl rfl) ?_
  show OGets p e below _ (T387.setTop (mkF m 35 #[rv a, rv asr, rv at0, iv 1] [(.ref a), (.long ((gi SRC iB).toInt64)), (.long ((0 : Int64) ||| ((((gi SRC iA).toInt64) - (lA.toInt64)) <<< ((0 : Int32) &&& 0x3f).toInt64))), (.int 0), (.ref at0)]))
  obtain ⟨T390, X390, e390, st390⟩ := getF X387 hx hZ hown (host := "") (Or.inl (ow hw 130 rfl)) Via.refl e387 (V380.fld 1 rfl 4 rfl rfl) (g := (mkF m 35 #[rv a, rv asr, rv at0, iv 1] [(.ref a), (.long ((gi SRC iB).toInt64)), (.long ((0 : Int64) ||| ((((gi SRC iA).toInt64) - (lA.toInt64)) <<< ((0 : Int32) &&& 0x3f).toInt64))), (.int 0), (.ref at0)])) rfl rfl (hb hby d77m5_35)
  refine og st390 ?_
  refine og (fun _ => XS.iloadN X390.here hx rfl (hb hby d77m5_38) rfl) ?_
  obtain ⟨cl391, Ar391, S391⟩ := V380.arr 5 rfl
  refine og (fun _ => X390.iaload hx (j := (1 : Int32)) (v := (.int lB)) (by rw [e390]; exact Ar391.1) (State.isArrayOf_alike hZ.alike Ar391.2.1) Ar391.2.2 (own_inb S391 1 (by decide) (nb rfl)) (own_get S391 1 (by decide) rfl) (g := (mkF m 39 #[rv a, rv asr, rv at0, iv 1] [(.int 1), (.ref ao), (.long ((gi SRC iB).toInt64)), (.long ((0 : Int64) ||| ((((gi SRC iA).toInt64) - (lA.toInt64)) <<< ((0 : Int32) &&& 0x3f).toInt64))), (.int 0), (.ref at0)])) rfl rfl (hb hby d77m5_39) _) ?_
  refine og (fun _ => XS.i2l X390.here hx rfl (hb hby d77m5_40) rfl) ?_
  refine og (fun _ => XS.lsub X390.here hx rfl (hb hby d77m5_41) rfl) ?_
  refine og (fun _ => XS.aloadN X390.here hx rfl (hb hby d77m5_42) rfl rfl) ?_
  show OGets p e below _ (T390.setTop (mkF m 43 #[rv a, rv asr, rv at0, iv 1] [(.ref a), (.long (((gi SRC iB).toInt64) - (lB.toInt64))), (.long ((0 : Int64) ||| ((((gi SRC iA).toInt64) - (lA.toInt64)) <<< ((0 : Int32) &&& 0x3f).toInt64))), (.int 0), (.ref at0)]))
  obtain ⟨T392, X392, e392, st392⟩ := getF X390 hx hZ hown (host := "") (Or.inl (ow hw 125 rfl)) Via.refl e390 (V380.fld 1 rfl 2 rfl rfl) (g := (mkF m 43 #[rv a, rv asr, rv at0, iv 1] [(.ref a), (.long (((gi SRC iB).toInt64) - (lB.toInt64))), (.long ((0 : Int64) ||| ((((gi SRC iA).toInt64) - (lA.toInt64)) <<< ((0 : Int32) &&& 0x3f).toInt64))), (.int 0), (.ref at0)])) rfl rfl (hb hby d77m5_43)
  refine og st392 ?_
  refine og (fun _ => XS.iloadN X392.here hx rfl (hb hby d77m5_46) rfl) ?_
  obtain ⟨cl393, Ar393, S393⟩ := V380.arr 4 rfl
  refine og (fun _ => X392.iaload hx (j := (1 : Int32)) (v := (.int s1)) (by rw [e392]; exact Ar393.1) (State.isArrayOf_alike hZ.alike Ar393.2.1) Ar393.2.2 (own_inb S393 1 (by decide) (nb rfl)) (own_get S393 1 (by decide) rfl) (g := (mkF m 47 #[rv a, rv asr, rv at0, iv 1] [(.int 1), (.ref ash), (.long (((gi SRC iB).toInt64) - (lB.toInt64))), (.long ((0 : Int64) ||| ((((gi SRC iA).toInt64) - (lA.toInt64)) <<< ((0 : Int32) &&& 0x3f).toInt64))), (.int 0), (.ref at0)])) rfl rfl (hb hby d77m5_47) _) ?_
  refine og (fun _ => XS.lshl X392.here hx rfl (hb hby d77m5_48) rfl) ?_
  refine og (fun _ => XS.lor X392.here hx rfl (hb hby d77m5_49) rfl) ?_
  obtain ⟨cl394, Ar394, S394⟩ := V380.arr 0 rfl
  obtain ⟨T394, h394, X394, e394, W394', st394⟩ := stJ X392 hx hZ e392 Ar394 (j := (0 : Int32)) (own_inb S394 0 (by decide) (nb rfl)) (g := (mkF m 50 #[rv a, rv asr, rv at0, iv 1] [(.long (((0 : Int64) ||| ((((gi SRC iA).toInt64) - (lA.toInt64)) <<< ((0 : Int32) &&& 0x3f).toInt64)) ||| ((((gi SRC iB).toInt64) - (lB.toInt64)) <<< (s1 &&& 0x3f).toInt64))), (.int 0), (.ref at0)])) rfl rfl (hb hby d77m5_50)
  have W394 := own_wr (vs := []) 0 (by decide) W394'
  have V394 : OView Z n0 h394 (oK at0 [(((0 : Int64) ||| ((((gi SRC iA).toInt64) - (lA.toInt64)) <<< ((0 : Int32) &&& 0x3f).toInt64)) ||| ((((gi SRC iB).toInt64) - (lB.toInt64)) <<< (s1 &&& 0x3f).toInt64)), 0] :: oY a [(.ref ai), (.ref aw), (.ref ash), (.ref am), (.ref ao), (.int 2)] :: oI ai [iA, iB, iC] :: oI aw [0, 0, 1] :: oI ash [0, s1, 0] :: oI ao [lA, lB, lC] :: oA asr SRC :: F) := V380.putA 0 rfl W394
  have N394 := Fr.snoc X394 N380 (V380.old 0 rfl)
  have Z394 : n0 ≤ h394.size := by rw [W394.size]; exact Z380
  refine og st394 ?_
  refine og (fun _ => XS.iinc X394.here hx rfl (hb hby d77m5_51) rfl (l' := #[rv a, rv asr, rv at0, iv 2]) rfl) ?_
  refine og (fun _ => XS.goto X394.here hx rfl (pc0 := 54) (pc' := 7) rfl (hb hby d77m5_54) (by decide) (by decide)) ?_
  refine og (fun _ => XS.iloadN X394.here hx rfl (hb hby d77m5_7) rfl) ?_
  refine og (fun _ => XS.aloadN X394.here hx rfl (hb hby d77m5_8) rfl rfl) ?_
  obtain ⟨T395, X395, e395, st395⟩ := getF X394 hx hZ hown (host := "") (Or.inl (ow hw 121 rfl)) Via.refl e394 (V394.fld 1 rfl 0 rfl rfl) (g := (mkF m 9 #[rv a, rv asr, rv at0, iv 2] [(.ref a), (.int 2)])) rfl rfl (hb hby d77m5_9)
  refine og st395 ?_
  obtain ⟨cl396, Ar396, S396⟩ := V394.arr 2 rfl
  have ln396 : cl396.slots.size.toInt32 = (3 : Int32) := by rw [own_len S396]; rfl
  refine og (U' := T395.setTop (mkF m 13 #[rv a, rv asr, rv at0, iv 2] [(.int 3), (.int 2)])) (fun t kt => ?_) ?_
  · refine X395.arraylength hx (by rw [e395]; exact Ar396.1) (State.isArrayOf_alike hZ.alike Ar396.2.1) (g := (mkF m 12 #[rv a, rv asr, rv at0, iv 2] [(.ref ai), (.int 2)])) rfl rfl (hb hby d77m5_12) _ ?_
    rw [ln396]; exact kt
  refine og (fun _ => XS.icmpNo X395.here hx rfl (hb hby d77m5_13) rfl (tlt (by decide : (2 : Int32) < (3 : Int32))).2.1) ?_
  refine og (fun _ => XS.aloadN X395.here hx rfl (hb hby d77m5_16) rfl rfl) ?_
  refine og (fun _ => XS.aloadN X395.here hx rfl (hb hby d77m5_17) rfl rfl) ?_
  obtain ⟨T398, X398, e398, st398⟩ := getF X395 hx hZ hown (host := "") (Or.inl (ow hw 123 rfl)) Via.refl e395 (V394.fld 1 rfl 1 rfl rfl) (g := (mkF m 18 #[rv a, rv asr, rv at0, iv 2] [(.ref a), (.ref at0)])) rfl rfl (hb hby d77m5_18)
  refine og st398 ?_
  refine og (fun _ => XS.iloadN X398.here hx rfl (hb hby d77m5_21) rfl) ?_
  obtain ⟨cl399, Ar399, S399⟩ := V394.arr 3 rfl
  refine og (fun _ => X398.iaload hx (j := (2 : Int32)) (v := (.int 1)) (by rw [e398]; exact Ar399.1) (State.isArrayOf_alike hZ.alike Ar399.2.1) Ar399.2.2 (own_inb S399 2 (by decide) (nb rfl)) (own_get S399 2 (by decide) rfl) (g := (mkF m 22 #[rv a, rv asr, rv at0, iv 2] [(.int 2), (.ref aw), (.ref at0)])) rfl rfl (hb hby d77m5_22) _) ?_
  refine og (U' := T398.setTop (mkF m 24 #[rv a, rv asr, rv at0, iv 2] [(.int 1), (.ref at0), (.int 1), (.ref at0)])) (fun t kt => ?_) ?_
  · jvm_step X398.here [X398.here.top, hx, (hb hby d77m5_23), Value.category]
    exact kt
  obtain ⟨cl400, Ar400, S400⟩ := V394.arr 0 rfl
  refine og (fun _ => X398.laload hx (j := (1 : Int32)) (v := (.long (0 : Int64))) (by rw [e398]; exact Ar400.1) (State.isArrayOf_alike hZ.alike Ar400.2.1) Ar400.2.2 (own_inb S400 1 (by decide) (nb rfl)) (own_get S400 1 (by decide) rfl) (g := (mkF m 24 #[rv a, rv asr, rv at0, iv 2] [(.int 1), (.ref at0), (.int 1), (.ref at0)])) rfl rfl (hb hby d77m5_24) _) ?_
  refine og (fun _ => XS.aloadN X398.here hx rfl (hb hby d77m5_25) rfl rfl) ?_
  show OGets p e below _ (T398.setTop (mkF m 26 #[rv a, rv asr, rv at0, iv 2] [(.ref asr), (.long (0 : Int64)), (.int 1), (.ref at0)]))
  refine og (fun _ => XS.aloadN X398.here hx rfl (hb hby d77m5_26) rfl rfl) ?_
  obtain ⟨T401, X401, e401, st401⟩ := getF X398 hx hZ hown (host := "") (Or.inl (ow hw 121 rfl)) Via.refl e398 (V394.fld 1 rfl 0 rfl rfl) (g := (mkF m 27 #[rv a, rv asr, rv at0, iv 2] [(.ref a), (.ref asr), (.long (0 : Int64)), (.int 1), (.ref at0)])) rfl rfl (hb hby d77m5_27)
  refine og st401 ?_
  refine og (fun _ => XS.iloadN X401.here hx rfl (hb hby d77m5_30) rfl) ?_
  obtain ⟨cl402, Ar402, S402⟩ := V394.arr 2 rfl
  refine og (fun _ => X401.iaload hx (j := (2 : Int32)) (v := (.int iC)) (by rw [e401]; exact Ar402.1) (State.isArrayOf_alike hZ.alike Ar402.2.1) Ar402.2.2 (own_inb S402 2 (by decide) (nb rfl)) (own_get S402 2 (by decide) rfl) (g := (mkF m 31 #[rv a, rv asr, rv at0, iv 2] [(.int 2), (.ref ai), (.ref asr), (.long (0 : Int64)), (.int 1), (.ref at0)])) rfl rfl (hb hby d77m5_31) _) ?_
  obtain ⟨cl403, Ar403, S403⟩ := V394.arr 6 rfl
  refine og (fun _ => X401.iaload hx (j := iC) (v := (.int (gi SRC iC))) (by rw [e401]; exact Ar403.1) (State.isArrayOf_alike hZ.alike Ar403.2.1) Ar403.2.2 (own_sin (n := 3) S403 (by simp only [List.length_map, si_len, sj_len, List.length_replicate, hlS]) hiC) (own_sgetI (n := 3) S403 (by simp only [List.length_map, si_len, sj_len, List.length_replicate, hlS]) hiC) (g := (mkF m 32 #[rv a, rv asr, rv at0, iv 2] [(.int iC), (.ref asr), (.long (0 : Int64)), (.int 1), (.ref at0)])) rfl rfl (hb hby d77m5_32) _) ?_
  refine og (fun _ => XS.i2l X401.here hx rfl (hb hby d77m5_33) rfl) ?_
  refine og (fun _ => XS.aloadN X401.here hx rfl (hb hby d77m5_34) rfl rfl) ?_
  show OGets p e below _ (T401.setTop (mkF m 35 #[rv a, rv asr, rv at0, iv 2] [(.ref a), (.long ((gi SRC iC).toInt64)), (.long (0 : Int64)), (.int 1), (.ref at0)]))
  obtain ⟨T404, X404, e404, st404⟩ := getF X401 hx hZ hown (host := "") (Or.inl (ow hw 130 rfl)) Via.refl e401 (V394.fld 1 rfl 4 rfl rfl) (g := (mkF m 35 #[rv a, rv asr, rv at0, iv 2] [(.ref a), (.long ((gi SRC iC).toInt64)), (.long (0 : Int64)), (.int 1), (.ref at0)])) rfl rfl (hb hby d77m5_35)
  refine og st404 ?_
  refine og (fun _ => XS.iloadN X404.here hx rfl (hb hby d77m5_38) rfl) ?_
  obtain ⟨cl405, Ar405, S405⟩ := V394.arr 5 rfl
  refine og (fun _ => X404.iaload hx (j := (2 : Int32)) (v := (.int lC)) (by rw [e404]; exact Ar405.1) (State.isArrayOf_alike hZ.alike Ar405.2.1) Ar405.2.2 (own_inb S405 2 (by decide) (nb rfl)) (own_get S405 2 (by decide) rfl) (g := (mkF m 39 #[rv a, rv asr, rv at0, iv 2] [(.int 2), (.ref ao), (.long ((gi SRC iC).toInt64)), (.long (0 : Int64)), (.int 1), (.ref at0)])) rfl rfl (hb hby d77m5_39) _) ?_
  refine og (fun _ => XS.i2l X404.here hx rfl (hb hby d77m5_40) rfl) ?_
  refine og (fun _ => XS.lsub X404.here hx rfl (hb hby d77m5_41) rfl) ?_
  refine og (fun _ => XS.aloadN X404.here hx rfl (hb hby d77m5_42) rfl rfl) ?_
  show OGets p e below _ (T404.setTop (mkF m 43 #[rv a, rv asr, rv at0, iv 2] [(.ref a), (.long (((gi SRC iC).toInt64) - (lC.toInt64))), (.long (0 : Int64)), (.int 1), (.ref at0)]))
  obtain ⟨T406, X406, e406, st406⟩ := getF X404 hx hZ hown (host := "") (Or.inl (ow hw 125 rfl)) Via.refl e404 (V394.fld 1 rfl 2 rfl rfl) (g := (mkF m 43 #[rv a, rv asr, rv at0, iv 2] [(.ref a), (.long (((gi SRC iC).toInt64) - (lC.toInt64))), (.long (0 : Int64)), (.int 1), (.ref at0)])) rfl rfl (hb hby d77m5_43)
  refine og st406 ?_
  refine og (fun _ => XS.iloadN X406.here hx rfl (hb hby d77m5_46) rfl) ?_
  obtain ⟨cl407, Ar407, S407⟩ := V394.arr 4 rfl
  refine og (fun _ => X406.iaload hx (j := (2 : Int32)) (v := (.int 0)) (by rw [e406]; exact Ar407.1) (State.isArrayOf_alike hZ.alike Ar407.2.1) Ar407.2.2 (own_inb S407 2 (by decide) (nb rfl)) (own_get S407 2 (by decide) rfl) (g := (mkF m 47 #[rv a, rv asr, rv at0, iv 2] [(.int 2), (.ref ash), (.long (((gi SRC iC).toInt64) - (lC.toInt64))), (.long (0 : Int64)), (.int 1), (.ref at0)])) rfl rfl (hb hby d77m5_47) _) ?_
  refine og (fun _ => XS.lshl X406.here hx rfl (hb hby d77m5_48) rfl) ?_
  refine og (fun _ => XS.lor X406.here hx rfl (hb hby d77m5_49) rfl) ?_
  obtain ⟨cl408, Ar408, S408⟩ := V394.arr 0 rfl
  obtain ⟨T408, h408, X408, e408, W408', st408⟩ := stJ X406 hx hZ e406 Ar408 (j := (1 : Int32)) (own_inb S408 1 (by decide) (nb rfl)) (g := (mkF m 50 #[rv a, rv asr, rv at0, iv 2] [(.long ((0 : Int64) ||| ((((gi SRC iC).toInt64) - (lC.toInt64)) <<< ((0 : Int32) &&& 0x3f).toInt64))), (.int 1), (.ref at0)])) rfl rfl (hb hby d77m5_50)
  have W408 := own_wr (vs := []) 1 (by decide) W408'
  have V408 : OView Z n0 h408 (oK at0 [(((0 : Int64) ||| ((((gi SRC iA).toInt64) - (lA.toInt64)) <<< ((0 : Int32) &&& 0x3f).toInt64)) ||| ((((gi SRC iB).toInt64) - (lB.toInt64)) <<< (s1 &&& 0x3f).toInt64)), ((0 : Int64) ||| ((((gi SRC iC).toInt64) - (lC.toInt64)) <<< ((0 : Int32) &&& 0x3f).toInt64))] :: oY a [(.ref ai), (.ref aw), (.ref ash), (.ref am), (.ref ao), (.int 2)] :: oI ai [iA, iB, iC] :: oI aw [0, 0, 1] :: oI ash [0, s1, 0] :: oI ao [lA, lB, lC] :: oA asr SRC :: F) := V394.putA 0 rfl W408
  have N408 := Fr.snoc X408 N394 (V394.old 0 rfl)
  have Z408 : n0 ≤ h408.size := by rw [W408.size]; exact Z394
  refine og st408 ?_
  refine og (fun _ => XS.iinc X408.here hx rfl (hb hby d77m5_51) rfl (l' := #[rv a, rv asr, rv at0, iv 3]) rfl) ?_
  refine og (fun _ => XS.goto X408.here hx rfl (pc0 := 54) (pc' := 7) rfl (hb hby d77m5_54) (by decide) (by decide)) ?_
  refine og (fun _ => XS.iloadN X408.here hx rfl (hb hby d77m5_7) rfl) ?_
  refine og (fun _ => XS.aloadN X408.here hx rfl (hb hby d77m5_8) rfl rfl) ?_
  obtain ⟨T409, X409, e409, st409⟩ := getF X408 hx hZ hown (host := "") (Or.inl (ow hw 121 rfl)) Via.refl e408 (V408.fld 1 rfl 0 rfl rfl) (g := (mkF m 9 #[rv a, rv asr, rv at0, iv 3] [(.ref a), (.int 3)])) rfl rfl (hb hby d77m5_9)
  refine og st409 ?_
  obtain ⟨cl410, Ar410, S410⟩ := V408.arr 2 rfl
  have ln410 : cl410.slots.size.toInt32 = (3 : Int32) := by rw [own_len S410]; rfl
  refine og (U' := T409.setTop (mkF m 13 #[rv a, rv asr, rv at0, iv 3] [(.int 3), (.int 3)])) (fun t kt => ?_) ?_
  · refine X409.arraylength hx (by rw [e409]; exact Ar410.1) (State.isArrayOf_alike hZ.alike Ar410.2.1) (g := (mkF m 12 #[rv a, rv asr, rv at0, iv 3] [(.ref ai), (.int 3)])) rfl rfl (hb hby d77m5_12) _ ?_
    rw [ln410]; exact kt
  refine og (fun _ => XS.icmpYes X409.here hx rfl (pc0 := 13) (pc' := 57) rfl (hb hby d77m5_13) rfl (flt (by decide : ¬ ((3 : Int32) < (3 : Int32)))).2.1 (by decide) (by decide)) ?_
  refine OGets.retV X409 hx hlk Bd.returns (hb hby d77m5_57) (nb rfl) (nb rfl) ?_
  have Vp412 : OView Z _ h408 (oY a [(.ref ai), (.ref aw), (.ref ash), (.ref am), (.ref ao), (.int 2)] :: oI ai [iA, iB, iC] :: oI aw [0, 0, 1] :: oI ash [0, s1, 0] :: oI ao [lA, lB, lC] :: oA asr SRC :: oK at0 [(((0 : Int64) ||| ((((gi SRC iA).toInt64) - (lA.toInt64)) <<< ((0 : Int32) &&& 0x3f).toInt64)) ||| ((((gi SRC iB).toInt64) - (lB.toInt64)) <<< (s1 &&& 0x3f).toInt64)), ((0 : Int64) ||| ((((gi SRC iC).toInt64) - (lC.toInt64)) <<< ((0 : Int32) &&& 0x3f).toInt64))] :: F) := ((((((V408.bring 6 rfl).bring 6 rfl).bring 6 rfl).bring 6 rfl).bring 6 rfl).bring 6 rfl)
  rw [e409]
  exact ⟨rfl, N408, _, _, rfl, rfl, Vp412⟩
theorem d77m4_0 : decode prog_77_method_4_code 0 = .ok (.aload_n 0, 1) := by decide +kernel
theorem d77m4_1 : decode prog_77_method_4_code 1 = .ok (.getfield 57, 3) := by decide +kernel
theorem d77m4_4 : decode prog_77_method_4_code 4 = .ok (.ireturn, 1) := by decide +kernel
theorem ef_wds (m : MethodId) (x0 : Addr) : entryFrame m #[(.ref x0)] 1 = mkF m 0 #[.val (.ref x0)] [] := by first | (simp [entryFrame, mkF, argsToLocals, Value.category]; done) | rfl
def Q_wds (Z : State) (a : Addr) (ai : Addr) (aw : Addr) (ash : Addr) (am : Addr) (ao : Addr) (wd : Int32) (h0 : Heap) (n0 : Nat) (F : List (Addr × OObj)) (v : Option Value) (h : Heap) (L : List Loc) : Prop := v = some (.int wd) ∧ L = [] ∧ h = h0
set_option maxRecDepth 65536 in
set_option maxHeartbeats 40000000 in
theorem rm_wds (l : Launch) (Z : State) (a0 : Array Value) (hw : ∀ d ∈ tables_1, d.before a0 Z = true) (ws : List Jvm.Cond) (a : Addr) (ai : Addr) (aw : Addr) (ash : Addr) (am : Addr) (ao : Addr) (wd : Int32) (h0 : Heap) (n0 : Nat) (F : List (Addr × OObj)) (Z0 : n0 ≤ h0.size) (V0 : OView Z n0 h0 (oY a [(.ref ai), (.ref aw), (.ref ash), (.ref am), (.ref ao), (.int wd)] :: F)) :
    MetFree l (⟨"com/example/inya/inya/StateLayout", "words", "()I"⟩ : MethodName) (head1 (Jvm.Cond.code (⟨"com/example/inya/inya/StateLayout", "words", "()I"⟩ : MethodName) prog_77_method_4_code 1 (some .int) :: ws) ({ frames := 0, cells := 0, slots := 0, locals := 0 } : Room)) (fun a_ U => a_ = #[(.ref a)] ∧ Z.Warmed39 U.vm ∧ U.heap = h0) (fun _ _ _ _ _ => True) (fun _ U o U' => ∃ v L, o = .returned v ∧ Q_wds Z a ai aw ash am ao wd h0 n0 F v U'.heap L ∧ FrameEnd U o U' L ({ frames := 0, cells := 0, slots := 0, locals := 0 } : Room).cells ({ frames := 0, cells := 0, slots := 0, locals := 0 } : Room).slots) := by
  refine MetFree.of_bodySF (plainFor_of_name pn_20) hisR ?_
  intro p e s m args below meth c s₁ Bd hml0 hP hK
  obtain ⟨rfl, hZ, hh⟩ := hP
  have hx := Bd.exec
  have hby := Bd.bytes
  have hlk : meth.locks = false := Bd.notSynchronized
  have hml : c.maxLocals = 1 := hml0
  have hown : s.vm.findClass "com/example/inya/inya/StateLayout" = some m.cls := findClass_of_methodNamed Bd.named
  have hnm := (name_of_methodNamed Bd.named Bd.method).1
  have X0 : Stand p l e ({ frames := 0, cells := 0, slots := 0, locals := 0 } : Room) s m #[(.ref a)] below meth c s₁ [] 0 0 := Stand.of_body Bd
  have e0 : s₁.heap = h0 := by rw [← hh, Bd.state]; rfl
  have N0 := Fr.nil n0
  show OGets p e below (OLeaves s (Q_wds Z a ai aw ash am ao wd h0 n0 F ) ({ frames := 0, cells := 0, slots := 0, locals := 0 } : Room).cells ({ frames := 0, cells := 0, slots := 0, locals := 0 } : Room).slots) _
  refine OGets.enter (ef_wds m a) ?_
  show OGets p e below _ (s₁.setTop (mkF m 0 #[rv a] []))
  refine og (fun _ => XS.aloadN X0.here hx rfl (hb hby d77m4_0) rfl rfl) ?_
  obtain ⟨T413, X413, e413, st413⟩ := getF X0 hx hZ hown (host := "") (Or.inl (ow hw 184 rfl)) Via.refl e0 (V0.fld 0 rfl 5 rfl rfl) (g := (mkF m 1 #[rv a] [(.ref a)])) rfl rfl (hb hby d77m4_1)
  refine og st413 ?_
  refine OGets.retI X413 hx hlk Bd.returns (hb hby d77m4_4) (nb rfl) (nb rfl) ?_
  exact ⟨rfl, rfl, e413⟩
theorem d77m7_0 : decode prog_77_method_7_code 0 = .ok (.iconst 0, 1) := by decide +kernel
theorem d77m7_1 : decode prog_77_method_7_code 1 = .ok (.istore 5, 2) := by decide +kernel
theorem d77m7_3 : decode prog_77_method_7_code 3 = .ok (.iload 5, 2) := by decide +kernel
theorem d77m7_5 : decode prog_77_method_7_code 5 = .ok (.aload_n 0, 1) := by decide +kernel
theorem d77m7_6 : decode prog_77_method_7_code 6 = .ok (.getfield 13, 3) := by decide +kernel
theorem d77m7_9 : decode prog_77_method_7_code 9 = .ok (.arraylength, 1) := by decide +kernel
theorem d77m7_10 : decode prog_77_method_7_code 10 = .ok (.if_icmp .ge 58, 3) := by decide +kernel
theorem d77m7_13 : decode prog_77_method_7_code 13 = .ok (.aload_n 3, 1) := by decide +kernel
theorem d77m7_14 : decode prog_77_method_7_code 14 = .ok (.iload 4, 2) := by decide +kernel
theorem d77m7_16 : decode prog_77_method_7_code 16 = .ok (.aload_n 0, 1) := by decide +kernel
theorem d77m7_17 : decode prog_77_method_7_code 17 = .ok (.getfield 13, 3) := by decide +kernel
theorem d77m7_20 : decode prog_77_method_7_code 20 = .ok (.iload 5, 2) := by decide +kernel
theorem d77m7_22 : decode prog_77_method_7_code 22 = .ok (.iaload, 1) := by decide +kernel
theorem d77m7_23 : decode prog_77_method_7_code 23 = .ok (.iadd, 1) := by decide +kernel
theorem d77m7_24 : decode prog_77_method_7_code 24 = .ok (.aload_n 0, 1) := by decide +kernel
theorem d77m7_25 : decode prog_77_method_7_code 25 = .ok (.getfield 29, 3) := by decide +kernel
theorem d77m7_28 : decode prog_77_method_7_code 28 = .ok (.iload 5, 2) := by decide +kernel
theorem d77m7_30 : decode prog_77_method_7_code 30 = .ok (.iaload, 1) := by decide +kernel
theorem d77m7_31 : decode prog_77_method_7_code 31 = .ok (.i2l, 1) := by decide +kernel
theorem d77m7_32 : decode prog_77_method_7_code 32 = .ok (.aload_n 1, 1) := by decide +kernel
theorem d77m7_33 : decode prog_77_method_7_code 33 = .ok (.iload_n 2, 1) := by decide +kernel
theorem d77m7_34 : decode prog_77_method_7_code 34 = .ok (.aload_n 0, 1) := by decide +kernel
theorem d77m7_35 : decode prog_77_method_7_code 35 = .ok (.getfield 19, 3) := by decide +kernel
theorem d77m7_38 : decode prog_77_method_7_code 38 = .ok (.iload 5, 2) := by decide +kernel
theorem d77m7_40 : decode prog_77_method_7_code 40 = .ok (.iaload, 1) := by decide +kernel
theorem d77m7_41 : decode prog_77_method_7_code 41 = .ok (.iadd, 1) := by decide +kernel
theorem d77m7_42 : decode prog_77_method_7_code 42 = .ok (.laload, 1) := by decide +kernel
theorem d77m7_43 : decode prog_77_method_7_code 43 = .ok (.aload_n 0, 1) := by decide +kernel
theorem d77m7_44 : decode prog_77_method_7_code 44 = .ok (.getfield 22, 3) := by decide +kernel
theorem d77m7_47 : decode prog_77_method_7_code 47 = .ok (.iload 5, 2) := by decide +kernel
theorem d77m7_49 : decode prog_77_method_7_code 49 = .ok (.iaload, 1) := by decide +kernel
theorem d77m7_50 : decode prog_77_method_7_code 50 = .ok (.lushr, 1) := by decide +kernel
theorem d77m7_51 : decode prog_77_method_7_code 51 = .ok (.aload_n 0, 1) := by decide +kernel
theorem d77m7_52 : decode prog_77_method_7_code 52 = .ok (.getfield 25, 3) := by decide +kernel
theorem d77m7_55 : decode prog_77_method_7_code 55 = .ok (.iload 5, 2) := by decide +kernel
theorem d77m7_57 : decode prog_77_method_7_code 57 = .ok (.laload, 1) := by decide +kernel
theorem d77m7_58 : decode prog_77_method_7_code 58 = .ok (.land, 1) := by decide +kernel
theorem d77m7_59 : decode prog_77_method_7_code 59 = .ok (.ladd, 1) := by decide +kernel
theorem d77m7_60 : decode prog_77_method_7_code 60 = .ok (.l2i, 1) := by decide +kernel
theorem d77m7_61 : decode prog_77_method_7_code 61 = .ok (.iastore, 1) := by decide +kernel
theorem d77m7_62 : decode prog_77_method_7_code 62 = .ok (.iinc 5 1, 3) := by decide +kernel
theorem d77m7_65 : decode prog_77_method_7_code 65 = .ok (.goto (-62), 3) := by decide +kernel
theorem d77m7_68 : decode prog_77_method_7_code 68 = .ok (.return_, 1) := by decide +kernel
theorem ef_unp (m : MethodId) (x0 : Addr) (x1 : Addr) (x2 : Int32) (x3 : Addr) (x4 : Int32) : entryFrame m #[(.ref x0), (.ref x1), (.int x2), (.ref x3), (.int x4)] 6 = mkF m 0 #[.val (.ref x0), .val (.ref x1), .val (.int x2), .val (.ref x3), .val (.int x4), .unset] [] := by first | (simp [entryFrame, mkF, argsToLocals, Value.category]; done) | rfl
def Q_unp (Z : State) (a : Addr) (ai : Addr) (aw : Addr) (ash : Addr) (am : Addr) (ao : Addr) (abg : Addr) (ads : Addr) (wd : Int32) (iA : Int32) (iB : Int32) (iC : Int32) (w0 : Int32) (w1 : Int32) (w2 : Int32) (s0 : Int32) (s1 : Int32) (s2 : Int32) (m0 : Int64) (m1 : Int64) (m2 : Int64) (lA : Int32) (lB : Int32) (lC : Int32) (oo : Int32) (tt : Int32) (BIG : List Int64) (DST : List Int32) (h0 : Heap) (n0 : Nat) (F : List (Addr × OObj)) (v : Option Value) (h : Heap) (L : List Loc) : Prop := v = none ∧ Fr n0 L ∧ OView Z n0 h (oY a [(.ref ai), (.ref aw), (.ref ash), (.ref am), (.ref ao), (.int wd)] :: oI ai [iA, iB, iC] :: oI aw [w0, w1, w2] :: oI ash [s0, s1, s2] :: oK am [m0, m1, m2] :: oI ao [lA, lB, lC] :: oB abg BIG :: oA ads (si (si (si DST (tt + iA) (unp lA (gj BIG (oo + w0)) s0 m0)) (tt + iB) (unp lB (gj BIG (oo + w1)) s1 m1)) (tt + iC) (unp lC (gj BIG (oo + w2)) s2 m2)) :: F)
set_option maxRecDepth 65536 in
set_option maxHeartbeats 40000000 in
theorem rm_unp (l : Launch) (Z : State) (a0 : Array Value) (hw : ∀ d ∈ tables_1, d.before a0 Z = true) (ws : List Jvm.Cond) (a : Addr) (ai : Addr) (aw : Addr) (ash : Addr) (am : Addr) (ao : Addr) (abg : Addr) (ads : Addr) (wd : Int32) (iA : Int32) (iB : Int32) (iC : Int32) (w0 : Int32) (w1 : Int32) (w2 : Int32) (s0 : Int32) (s1 : Int32) (s2 : Int32) (m0 : Int64) (m1 : Int64) (m2 : Int64) (lA : Int32) (lB : Int32) (lC : Int32) (oo : Int32) (tt : Int32) (BIG : List Int64) (DST : List Int32) (h0 : Heap) (n0 : Nat) (F : List (Addr × OObj)) (Z0 : n0 ≤ h0.size) (hlB : BIG.length = 4) (hlD : DST.length = 7) (g0 : inb 4 (oo + w0)) (g1 : inb 4 (oo + w1)) (g2 : inb 4 (oo + w2)) (j0 : inb 7 (tt + iA)) (j1 : inb 7 (tt + iB)) (j2 : inb 7 (tt + iC)) (V0 : OView Z n0 h0 (oY a [(.ref ai), (.ref aw), (.ref ash), (.ref am), (.ref ao), (.int wd)] :: oI ai [iA, iB, iC] :: oI aw [w0, w1, w2] :: oI ash [s0, s1, s2] :: oK am [m0, m1, m2] :: oI ao [lA, lB, lC] :: oB abg BIG :: oA ads DST :: F)) :
    MetFree l (⟨"com/example/inya/inya/StateLayout", "unpack", "([JI[II)V"⟩ : MethodName) (head1 (Jvm.Cond.code (⟨"com/example/inya/inya/StateLayout", "unpack", "([JI[II)V"⟩ : MethodName) prog_77_method_7_code 6 none :: ws) ({ frames := 0, cells := 0, slots := 0, locals := 0 } : Room)) (fun a_ U => a_ = #[(.ref a), (.ref abg), (.int oo), (.ref ads), (.int tt)] ∧ Z.Warmed39 U.vm ∧ U.heap = h0) (fun _ _ _ _ _ => True) (fun _ U o U' => ∃ v L, o = .returned v ∧ Q_unp Z a ai aw ash am ao abg ads wd iA iB iC w0 w1 w2 s0 s1 s2 m0 m1 m2 lA lB lC oo tt BIG DST h0 n0 F v U'.heap L ∧ FrameEnd U o U' L ({ frames := 0, cells := 0, slots := 0, locals := 0 } : Room).cells ({ frames := 0, cells := 0, slots := 0, locals := 0 } : Room).slots) := by
  refine MetFree.of_bodySF (plainFor_of_name pn_20) hisR ?_
  intro p e s m args below meth c s₁ Bd hml0 hP hK
  obtain ⟨rfl, hZ, hh⟩ := hP
  have hx := Bd.exec
  have hby := Bd.bytes
  have hlk : meth.locks = false := Bd.notSynchronized
  have hml : c.maxLocals = 6 := hml0
  have hown : s.vm.findClass "com/example/inya/inya/StateLayout" = some m.cls := findClass_of_methodNamed Bd.named
  have hnm := (name_of_methodNamed Bd.named Bd.method).1
  have X0 : Stand p l e ({ frames := 0, cells := 0, slots := 0, locals := 0 } : Room) s m #[(.ref a), (.ref abg), (.int oo), (.ref ads), (.int tt)] below meth c s₁ [] 0 0 := Stand.of_body Bd
  have e0 : s₁.heap = h0 := by rw [← hh, Bd.state]; rfl
  have N0 := Fr.nil n0
  show OGets p e below (OLeaves s (Q_unp Z a ai aw ash am ao abg ads wd iA iB iC w0 w1 w2 s0 s1 s2 m0 m1 m2 lA lB lC oo tt BIG DST h0 n0 F ) ({ frames := 0, cells := 0, slots := 0, locals := 0 } : Room).cells ({ frames := 0, cells := 0, slots := 0, locals := 0 } : Room).slots) _
  refine OGets.enter (ef_unp m a abg oo ads tt) ?_
  show OGets p e below _ (s₁.setTop (mkF m 0 #[rv a, rv abg, iv oo, rv ads, iv tt, uv] []))
  refine og (fun _ => XS.iconst X0.here hx rfl (hb hby d77m7_0)) ?_
  refine og (fun _ => XS.istore X0.here hx rfl (hb hby d77m7_1) rfl (l' := #[rv a, rv abg, iv oo, rv ads, iv tt, iv 0]) rfl) ?_
  refine og (fun _ => XS.iload X0.here hx rfl (hb hby d77m7_3) rfl) ?_
  refine og (fun _ => XS.aloadN X0.here hx rfl (hb hby d77m7_5) rfl rfl) ?_
  obtain ⟨T414, X414, e414, st414⟩ := getF X0 hx hZ hown (host := "") (Or.inl (ow hw 121 rfl)) Via.refl e0 (V0.fld 0 rfl 0 rfl rfl) (g := (mkF m 6 #[rv a, rv abg, iv oo, rv ads, iv tt, iv 0] [(.ref a), (.int 0)])) rfl rfl (hb hby d77m7_6)
  refine og st414 ?_
  obtain ⟨cl415, Ar415, S415⟩ := V0.arr 1 rfl
  have ln415 : cl415.slots.size.toInt32 = (3 : Int32) := by rw [own_len S415]; rfl
  refine og (U' := T414.setTop (mkF m 10 #[rv a, rv abg, iv oo, rv ads, iv tt, iv 0] [(.int 3), (.int 0)])) (fun t kt => ?_) ?_
  · refine X414.arraylength hx (by rw [e414]; exact Ar415.1) (State.isArrayOf_alike hZ.alike Ar415.2.1) (g := (mkF m 9 #[rv a, rv abg, iv oo, rv ads, iv tt, iv 0] [(.ref ai), (.int 0)])) rfl rfl (hb hby d77m7_9) _ ?_
    rw [ln415]; exact kt
  refine og (fun _ => XS.icmpNo X414.here hx rfl (hb hby d77m7_10) rfl (tlt (by decide : (0 : Int32) < (3 : Int32))).2.1) ?_
  refine og (fun _ => XS.aloadN X414.here hx rfl (hb hby d77m7_13) rfl rfl) ?_
  refine og (fun _ => XS.iload X414.here hx rfl (hb hby d77m7_14) rfl) ?_
  refine og (fun _ => XS.aloadN X414.here hx rfl (hb hby d77m7_16) rfl rfl) ?_
  show OGets p e below _ (T414.setTop (mkF m 17 #[rv a, rv abg, iv oo, rv ads, iv tt, iv 0] [(.ref a), (.int tt), (.ref ads)]))
  obtain ⟨T417, X417, e417, st417⟩ := getF X414 hx hZ hown (host := "") (Or.inl (ow hw 121 rfl)) Via.refl e414 (V0.fld 0 rfl 0 rfl rfl) (g := (mkF m 17 #[rv a, rv abg, iv oo, rv ads, iv tt, iv 0] [(.ref a), (.int tt), (.ref ads)])) rfl rfl (hb hby d77m7_17)
  refine og st417 ?_
  refine og (fun _ => XS.iload X417.here hx rfl (hb hby d77m7_20) rfl) ?_
  obtain ⟨cl418, Ar418, S418⟩ := V0.arr 1 rfl
  refine og (fun _ => X417.iaload hx (j := (0 : Int32)) (v := (.int iA)) (by rw [e417]; exact Ar418.1) (State.isArrayOf_alike hZ.alike Ar418.2.1) Ar418.2.2 (own_inb S418 0 (by decide) (nb rfl)) (own_get S418 0 (by decide) rfl) (g := (mkF m 22 #[rv a, rv abg, iv oo, rv ads, iv tt, iv 0] [(.int 0), (.ref ai), (.int tt), (.ref ads)])) rfl rfl (hb hby d77m7_22) _) ?_
  refine og (fun _ => XS.iadd X417.here hx rfl (hb hby d77m7_23) rfl) ?_
  refine og (fun _ => XS.aloadN X417.here hx rfl (hb hby d77m7_24) rfl rfl) ?_
  obtain ⟨T419, X419, e419, st419⟩ := getF X417 hx hZ hown (host := "") (Or.inl (ow hw 130 rfl)) Via.refl e417 (V0.fld 0 rfl 4 rfl rfl) (g := (mkF m 25 #[rv a, rv abg, iv oo, rv ads, iv tt, iv 0] [(.ref a), (.int (tt + iA)), (.ref ads)])) rfl rfl (hb hby d77m7_25)
  refine og st419 ?_
  refine og (fun _ => XS.iload X419.here hx rfl (hb hby d77m7_28) rfl) ?_
  obtain ⟨cl420, Ar420, S420⟩ := V0.arr 5 rfl
  refine og (fun _ => X419.iaload hx (j := (0 : Int32)) (v := (.int lA)) (by rw [e419]; exact Ar420.1) (State.isArrayOf_alike hZ.alike Ar420.2.1) Ar420.2.2 (own_inb S420 0 (by decide) (nb rfl)) (own_get S420 0 (by decide) rfl) (g := (mkF m 30 #[rv a, rv abg, iv oo, rv ads, iv tt, iv 0] [(.int 0), (.ref ao), (.int (tt + iA)), (.ref ads)])) rfl rfl (hb hby d77m7_30) _) ?_
  refine og (fun _ => XS.i2l X419.here hx rfl (hb hby d77m7_31) rfl) ?_
  refine og (fun _ => XS.aloadN X419.here hx rfl (hb hby d77m7_32) rfl rfl) ?_
  refine og (fun _ => XS.iloadN X419.here hx rfl (hb hby d77m7_33) rfl) ?_
  show OGets p e below _ (T419.setTop (mkF m 34 #[rv a, rv abg, iv oo, rv ads, iv tt, iv 0] [(.int oo), (.ref abg), (.long (lA.toInt64)), (.int (tt + iA)), (.ref ads)]))
  refine og (fun _ => XS.aloadN X419.here hx rfl (hb hby d77m7_34) rfl rfl) ?_
  obtain ⟨T421, X421, e421, st421⟩ := getF X419 hx hZ hown (host := "") (Or.inl (ow hw 123 rfl)) Via.refl e419 (V0.fld 0 rfl 1 rfl rfl) (g := (mkF m 35 #[rv a, rv abg, iv oo, rv ads, iv tt, iv 0] [(.ref a), (.int oo), (.ref abg), (.long (lA.toInt64)), (.int (tt + iA)), (.ref ads)])) rfl rfl (hb hby d77m7_35)
  refine og st421 ?_
  refine og (fun _ => XS.iload X421.here hx rfl (hb hby d77m7_38) rfl) ?_
  obtain ⟨cl422, Ar422, S422⟩ := V0.arr 2 rfl
  refine og (fun _ => X421.iaload hx (j := (0 : Int32)) (v := (.int w0)) (by rw [e421]; exact Ar422.1) (State.isArrayOf_alike hZ.alike Ar422.2.1) Ar422.2.2 (own_inb S422 0 (by decide) (nb rfl)) (own_get S422 0 (by decide) rfl) (g := (mkF m 40 #[rv a, rv abg, iv oo, rv ads, iv tt, iv 0] [(.int 0), (.ref aw), (.int oo), (.ref abg), (.long (lA.toInt64)), (.int (tt + iA)), (.ref ads)])) rfl rfl (hb hby d77m7_40) _) ?_
  refine og (fun _ => XS.iadd X421.here hx rfl (hb hby d77m7_41) rfl) ?_
  obtain ⟨cl423, Ar423, S423⟩ := V0.arr 6 rfl
  refine og (fun _ => X421.laload hx (j := (oo + w0)) (v := (.long (gj BIG (oo + w0)))) (by rw [e421]; exact Ar423.1) (State.isArrayOf_alike hZ.alike Ar423.2.1) Ar423.2.2 (own_sin (n := 4) S423 (by simp only [List.length_map, si_len, sj_len, List.length_replicate, hlB]) g0) (own_sgetJ (n := 4) S423 (by simp only [List.length_map, si_len, sj_len, List.length_replicate, hlB]) g0) (g := (mkF m 42 #[rv a, rv abg, iv oo, rv ads, iv tt, iv 0] [(.int (oo + w0)), (.ref abg), (.long (lA.toInt64)), (.int (tt + iA)), (.ref ads)])) rfl rfl (hb hby d77m7_42) _) ?_
  refine og (fun _ => XS.aloadN X421.here hx rfl (hb hby d77m7_43) rfl rfl) ?_
  show OGets p e below _ (T421.setTop (mkF m 44 #[rv a, rv abg, iv oo, rv ads, iv tt, iv 0] [(.ref a), (.long (gj BIG (oo + w0))), (.long (lA.toInt64)), (.int (tt + iA)), (.ref ads)]))
  obtain ⟨T424, X424, e424, st424⟩ := getF X421 hx hZ hown (host := "") (Or.inl (ow hw 125 rfl)) Via.refl e421 (V0.fld 0 rfl 2 rfl rfl) (g := (mkF m 44 #[rv a, rv abg, iv oo, rv ads, iv tt, iv 0] [(.ref a), (.long (gj BIG (oo + w0))), (.long (lA.toInt64)), (.int (tt + iA)), (.ref ads)])) rfl rfl (hb hby d77m7_44)
  refine og st424 ?_
  refine og (fun _ => XS.iload X424.here hx rfl (hb hby d77m7_47) rfl) ?_
  obtain ⟨cl425, Ar425, S425⟩ := V0.arr 3 rfl
  refine og (fun _ => X424.iaload hx (j := (0 : Int32)) (v := (.int s0)) (by rw [e424]; exact Ar425.1) (State.isArrayOf_alike hZ.alike Ar425.2.1) Ar425.2.2 (own_inb S425 0 (by decide) (nb rfl)) (own_get S425 0 (by decide) rfl) (g := (mkF m 49 #[rv a, rv abg, iv oo, rv ads, iv tt, iv 0] [(.int 0), (.ref ash), (.long (gj BIG (oo + w0))), (.long (lA.toInt64)), (.int (tt + iA)), (.ref ads)])) rfl rfl (hb hby d77m7_49) _) ?_
  refine og (fun _ => XS.lushr X424.here hx rfl (hb hby d77m7_50) rfl) ?_
  refine og (fun _ => XS.aloadN X424.here hx rfl (hb hby d77m7_51) rfl rfl) ?_
  obtain ⟨T426, X426, e426, st426⟩ := getF X424 hx hZ hown (host := "") (Or.inl (ow hw 128 rfl)) Via.refl e424 (V0.fld 0 rfl 3 rfl rfl) (g := (mkF m 52 #[rv a, rv abg, iv oo, rv ads, iv tt, iv 0] [(.ref a), (.long (((gj BIG (oo + w0)).toUInt64 >>> (s0 &&& 0x3f).toInt64.toUInt64).toInt64)), (.long (lA.toInt64)), (.int (tt + iA)), (.ref ads)])) rfl rfl (hb hby d77m7_52)
  refine og st426 ?_
  refine og (fun _ => XS.iload X426.here hx rfl (hb hby d77m7_55) rfl) ?_
  obtain ⟨cl427, Ar427, S427⟩ := V0.arr 4 rfl
  refine og (fun _ => X426.laload hx (j := (0 : Int32)) (v := (.long m0)) (by rw [e426]; exact Ar427.1) (State.isArrayOf_alike hZ.alike Ar427.2.1) Ar427.2.2 (own_inb S427 0 (by decide) (nb rfl)) (own_get S427 0 (by decide) rfl) (g := (mkF m 57 #[rv a, rv abg, iv oo, rv ads, iv tt, iv 0] [(.int 0), (.ref am), (.long (((gj BIG (oo + w0)).toUInt64 >>> (s0 &&& 0x3f).toInt64.toUInt64).toInt64)), (.long (lA.toInt64)), (.int (tt + iA)), (.ref ads)])) rfl rfl (hb hby d77m7_57) _) ?_
  refine og (fun _ => XS.land X426.here hx rfl (hb hby d77m7_58) rfl) ?_
  refine og (fun _ => XS.ladd X426.here hx rfl (hb hby d77m7_59) rfl) ?_
  refine og (fun _ => XS.l2i X426.here hx rfl (hb hby d77m7_60) rfl) ?_
  show OGets p e below _ (T426.setTop (mkF m 61 #[rv a, rv abg, iv oo, rv ads, iv tt, iv 0] [(.int (((lA.toInt64) + ((((gj BIG (oo + w0)).toUInt64 >>> (s0 &&& 0x3f).toInt64.toUInt64).toInt64) &&& m0)).toInt32)), (.int (tt + iA)), (.ref ads)]))
  obtain ⟨cl428, Ar428, S428⟩ := V0.arr 7 rfl
  obtain ⟨T428, h428, X428, e428, W428, st428⟩ := stI X426 hx hZ e426 Ar428 (j := (tt + iA)) (own_sin (n := 7) S428 (by simp only [List.length_map, si_len, sj_len, List.length_replicate, hlD]) j0) (g := (mkF m 61 #[rv a, rv abg, iv oo, rv ads, iv tt, iv 0] [(.int (((lA.toInt64) + ((((gj BIG (oo + w0)).toUInt64 >>> (s0 &&& 0x3f).toInt64.toUInt64).toInt64) &&& m0)).toInt32)), (.int (tt + iA)), (.ref ads)])) rfl rfl (hb hby d77m7_61)
  have V428 : OView Z n0 h428 (oY a [(.ref ai), (.ref aw), (.ref ash), (.ref am), (.ref ao), (.int wd)] :: oI ai [iA, iB, iC] :: oI aw [w0, w1, w2] :: oI ash [s0, s1, s2] :: oK am [m0, m1, m2] :: oI ao [lA, lB, lC] :: oB abg BIG :: oA ads (si DST (tt + iA) (((lA.toInt64) + ((((gj BIG (oo + w0)).toUInt64 >>> (s0 &&& 0x3f).toInt64.toUInt64).toInt64) &&& m0)).toInt32)) :: F) := V0.putI 7 rfl W428
  have N428 := Fr.snoc X428 N0 (V0.old 7 rfl)
  have Z428 : n0 ≤ h428.size := by rw [W428.size]; exact Z0
  refine og st428 ?_
  refine og (fun _ => XS.iinc X428.here hx rfl (hb hby d77m7_62) rfl (l' := #[rv a, rv abg, iv oo, rv ads, iv tt, iv 1]) rfl) ?_
  refine og (fun _ => XS.goto X428.here hx rfl (pc0 := 65) (pc' := 3) rfl (hb hby d77m7_65) (by decide) (by decide)) ?_
  refine og (fun _ => XS.iload X428.here hx rfl (hb hby d77m7_3) rfl) ?_
  refine og (fun _ => XS.aloadN X428.here hx rfl (hb hby d77m7_5) rfl rfl) ?_
  obtain ⟨T429, X429, e429, st429⟩ := getF X428 hx hZ hown (host := "") (Or.inl (ow hw 121 rfl)) Via.refl e428 (V428.fld 0 rfl 0 rfl rfl) (g := (mkF m 6 #[rv a, rv abg, iv oo, rv ads, iv tt, iv 1] [(.ref a), (.int 1)])) rfl rfl (hb hby d77m7_6)
  refine og st429 ?_
  obtain ⟨cl430, Ar430, S430⟩ := V428.arr 1 rfl
  have ln430 : cl430.slots.size.toInt32 = (3 : Int32) := by rw [own_len S430]; rfl
  refine og (U' := T429.setTop (mkF m 10 #[rv a, rv abg, iv oo, rv ads, iv tt, iv 1] [(.int 3), (.int 1)])) (fun t kt => ?_) ?_
  · refine X429.arraylength hx (by rw [e429]; exact Ar430.1) (State.isArrayOf_alike hZ.alike Ar430.2.1) (g := (mkF m 9 #[rv a, rv abg, iv oo, rv ads, iv tt, iv 1] [(.ref ai), (.int 1)])) rfl rfl (hb hby d77m7_9) _ ?_
    rw [ln430]; exact kt
  refine og (fun _ => XS.icmpNo X429.here hx rfl (hb hby d77m7_10) rfl (tlt (by decide : (1 : Int32) < (3 : Int32))).2.1) ?_
  refine og (fun _ => XS.aloadN X429.here hx rfl (hb hby d77m7_13) rfl rfl) ?_
  refine og (fun _ => XS.iload X429.here hx rfl (hb hby d77m7_14) rfl) ?_
  refine og (fun _ => XS.aloadN X429.here hx rfl (hb hby d77m7_16) rfl rfl) ?_
  show OGets p e below _ (T429.setTop (mkF m 17 #[rv a, rv abg, iv oo, rv ads, iv tt, iv 1] [(.ref a), (.int tt), (.ref ads)]))
  obtain ⟨T432, X432, e432, st432⟩ := getF X429 hx hZ hown (host := "") (Or.inl (ow hw 121 rfl)) Via.refl e429 (V428.fld 0 rfl 0 rfl rfl) (g := (mkF m 17 #[rv a, rv abg, iv oo, rv ads, iv tt, iv 1] [(.ref a), (.int tt), (.ref ads)])) rfl rfl (hb hby d77m7_17)
  refine og st432 ?_
  refine og (fun _ => XS.iload X432.here hx rfl (hb hby d77m7_20) rfl) ?_
  obtain ⟨cl433, Ar433, S433⟩ := V428.arr 1 rfl
  refine og (fun _ => X432.iaload hx (j := (1 : Int32)) (v := (.int iB)) (by rw [e432]; exact Ar433.1) (State.isArrayOf_alike hZ.alike Ar433.2.1) Ar433.2.2 (own_inb S433 1 (by decide) (nb rfl)) (own_get S433 1 (by decide) rfl) (g := (mkF m 22 #[rv a, rv abg, iv oo, rv ads, iv tt, iv 1] [(.int 1), (.ref ai), (.int tt), (.ref ads)])) rfl rfl (hb hby d77m7_22) _) ?_
  refine og (fun _ => XS.iadd X432.here hx rfl (hb hby d77m7_23) rfl) ?_
  refine og (fun _ => XS.aloadN X432.here hx rfl (hb hby d77m7_24) rfl rfl) ?_
  obtain ⟨T434, X434, e434, st434⟩ := getF X432 hx hZ hown (host := "") (Or.inl (ow hw 130 rfl)) Via.refl e432 (V428.fld 0 rfl 4 rfl rfl) (g := (mkF m 25 #[rv a, rv abg, iv oo, rv ads, iv tt, iv 1] [(.ref a), (.int (tt + iB)), (.ref ads)])) rfl rfl (hb hby d77m7_25)
  refine og st434 ?_
  refine og (fun _ => XS.iload X434.here hx rfl (hb hby d77m7_28) rfl) ?_
  obtain ⟨cl435, Ar435, S435⟩ := V428.arr 5 rfl
  refine og (fun _ => X434.iaload hx (j := (1 : Int32)) (v := (.int lB)) (by rw [e434]; exact Ar435.1) (State.isArrayOf_alike hZ.alike Ar435.2.1) Ar435.2.2 (own_inb S435 1 (by decide) (nb rfl)) (own_get S435 1 (by decide) rfl) (g := (mkF m 30 #[rv a, rv abg, iv oo, rv ads, iv tt, iv 1] [(.int 1), (.ref ao), (.int (tt + iB)), (.ref ads)])) rfl rfl (hb hby d77m7_30) _) ?_
  refine og (fun _ => XS.i2l X434.here hx rfl (hb hby d77m7_31) rfl) ?_
  refine og (fun _ => XS.aloadN X434.here hx rfl (hb hby d77m7_32) rfl rfl) ?_
  refine og (fun _ => XS.iloadN X434.here hx rfl (hb hby d77m7_33) rfl) ?_
  show OGets p e below _ (T434.setTop (mkF m 34 #[rv a, rv abg, iv oo, rv ads, iv tt, iv 1] [(.int oo), (.ref abg), (.long (lB.toInt64)), (.int (tt + iB)), (.ref ads)]))
  refine og (fun _ => XS.aloadN X434.here hx rfl (hb hby d77m7_34) rfl rfl) ?_
  obtain ⟨T436, X436, e436, st436⟩ := getF X434 hx hZ hown (host := "") (Or.inl (ow hw 123 rfl)) Via.refl e434 (V428.fld 0 rfl 1 rfl rfl) (g := (mkF m 35 #[rv a, rv abg, iv oo, rv ads, iv tt, iv 1] [(.ref a), (.int oo), (.ref abg), (.long (lB.toInt64)), (.int (tt + iB)), (.ref ads)])) rfl rfl (hb hby d77m7_35)
  refine og st436 ?_
  refine og (fun _ => XS.iload X436.here hx rfl (hb hby d77m7_38) rfl) ?_
  obtain ⟨cl437, Ar437, S437⟩ := V428.arr 2 rfl
  refine og (fun _ => X436.iaload hx (j := (1 : Int32)) (v := (.int w1)) (by rw [e436]; exact Ar437.1) (State.isArrayOf_alike hZ.alike Ar437.2.1) Ar437.2.2 (own_inb S437 1 (by decide) (nb rfl)) (own_get S437 1 (by decide) rfl) (g := (mkF m 40 #[rv a, rv abg, iv oo, rv ads, iv tt, iv 1] [(.int 1), (.ref aw), (.int oo), (.ref abg), (.long (lB.toInt64)), (.int (tt + iB)), (.ref ads)])) rfl rfl (hb hby d77m7_40) _) ?_
  refine og (fun _ => XS.iadd X436.here hx rfl (hb hby d77m7_41) rfl) ?_
  obtain ⟨cl438, Ar438, S438⟩ := V428.arr 6 rfl
  refine og (fun _ => X436.laload hx (j := (oo + w1)) (v := (.long (gj BIG (oo + w1)))) (by rw [e436]; exact Ar438.1) (State.isArrayOf_alike hZ.alike Ar438.2.1) Ar438.2.2 (own_sin (n := 4) S438 (by simp only [List.length_map, si_len, sj_len, List.length_replicate, hlB]) g1) (own_sgetJ (n := 4) S438 (by simp only [List.length_map, si_len, sj_len, List.length_replicate, hlB]) g1) (g := (mkF m 42 #[rv a, rv abg, iv oo, rv ads, iv tt, iv 1] [(.int (oo + w1)), (.ref abg), (.long (lB.toInt64)), (.int (tt + iB)), (.ref ads)])) rfl rfl (hb hby d77m7_42) _) ?_
  refine og (fun _ => XS.aloadN X436.here hx rfl (hb hby d77m7_43) rfl rfl) ?_
  show OGets p e below _ (T436.setTop (mkF m 44 #[rv a, rv abg, iv oo, rv ads, iv tt, iv 1] [(.ref a), (.long (gj BIG (oo + w1))), (.long (lB.toInt64)), (.int (tt + iB)), (.ref ads)]))
  obtain ⟨T439, X439, e439, st439⟩ := getF X436 hx hZ hown (host := "") (Or.inl (ow hw 125 rfl)) Via.refl e436 (V428.fld 0 rfl 2 rfl rfl) (g := (mkF m 44 #[rv a, rv abg, iv oo, rv ads, iv tt, iv 1] [(.ref a), (.long (gj BIG (oo + w1))), (.long (lB.toInt64)), (.int (tt + iB)), (.ref ads)])) rfl rfl (hb hby d77m7_44)
  refine og st439 ?_
  refine og (fun _ => XS.iload X439.here hx rfl (hb hby d77m7_47) rfl) ?_
  obtain ⟨cl440, Ar440, S440⟩ := V428.arr 3 rfl
  refine og (fun _ => X439.iaload hx (j := (1 : Int32)) (v := (.int s1)) (by rw [e439]; exact Ar440.1) (State.isArrayOf_alike hZ.alike Ar440.2.1) Ar440.2.2 (own_inb S440 1 (by decide) (nb rfl)) (own_get S440 1 (by decide) rfl) (g := (mkF m 49 #[rv a, rv abg, iv oo, rv ads, iv tt, iv 1] [(.int 1), (.ref ash), (.long (gj BIG (oo + w1))), (.long (lB.toInt64)), (.int (tt + iB)), (.ref ads)])) rfl rfl (hb hby d77m7_49) _) ?_
  refine og (fun _ => XS.lushr X439.here hx rfl (hb hby d77m7_50) rfl) ?_
  refine og (fun _ => XS.aloadN X439.here hx rfl (hb hby d77m7_51) rfl rfl) ?_
  obtain ⟨T441, X441, e441, st441⟩ := getF X439 hx hZ hown (host := "") (Or.inl (ow hw 128 rfl)) Via.refl e439 (V428.fld 0 rfl 3 rfl rfl) (g := (mkF m 52 #[rv a, rv abg, iv oo, rv ads, iv tt, iv 1] [(.ref a), (.long (((gj BIG (oo + w1)).toUInt64 >>> (s1 &&& 0x3f).toInt64.toUInt64).toInt64)), (.long (lB.toInt64)), (.int (tt + iB)), (.ref ads)])) rfl rfl (hb hby d77m7_52)
  refine og st441 ?_
  refine og (fun _ => XS.iload X441.here hx rfl (hb hby d77m7_55) rfl) ?_
  obtain ⟨cl442, Ar442, S442⟩ := V428.arr 4 rfl
  refine og (fun _ => X441.laload hx (j := (1 : Int32)) (v := (.long m1)) (by rw [e441]; exact Ar442.1) (State.isArrayOf_alike hZ.alike Ar442.2.1) Ar442.2.2 (own_inb S442 1 (by decide) (nb rfl)) (own_get S442 1 (by decide) rfl) (g := (mkF m 57 #[rv a, rv abg, iv oo, rv ads, iv tt, iv 1] [(.int 1), (.ref am), (.long (((gj BIG (oo + w1)).toUInt64 >>> (s1 &&& 0x3f).toInt64.toUInt64).toInt64)), (.long (lB.toInt64)), (.int (tt + iB)), (.ref ads)])) rfl rfl (hb hby d77m7_57) _) ?_
  refine og (fun _ => XS.land X441.here hx rfl (hb hby d77m7_58) rfl) ?_
  refine og (fun _ => XS.ladd X441.here hx rfl (hb hby d77m7_59) rfl) ?_
  refine og (fun _ => XS.l2i X441.here hx rfl (hb hby d77m7_60) rfl) ?_
  show OGets p e below _ (T441.setTop (mkF m 61 #[rv a, rv abg, iv oo, rv ads, iv tt, iv 1] [(.int (((lB.toInt64) + ((((gj BIG (oo + w1)).toUInt64 >>> (s1 &&& 0x3f).toInt64.toUInt64).toInt64) &&& m1)).toInt32)), (.int (tt + iB)), (.ref ads)]))
  obtain ⟨cl443, Ar443, S443⟩ := V428.arr 7 rfl
  obtain ⟨T443, h443, X443, e443, W443, st443⟩ := stI X441 hx hZ e441 Ar443 (j := (tt + iB)) (own_sin (n := 7) S443 (by simp only [List.length_map, si_len, sj_len, List.length_replicate, hlD]) j1) (g := (mkF m 61 #[rv a, rv abg, iv oo, rv ads, iv tt, iv 1] [(.int (((lB.toInt64) + ((((gj BIG (oo + w1)).toUInt64 >>> (s1 &&& 0x3f).toInt64.toUInt64).toInt64) &&& m1)).toInt32)), (.int (tt + iB)), (.ref ads)])) rfl rfl (hb hby d77m7_61)
  have V443 : OView Z n0 h443 (oY a [(.ref ai), (.ref aw), (.ref ash), (.ref am), (.ref ao), (.int wd)] :: oI ai [iA, iB, iC] :: oI aw [w0, w1, w2] :: oI ash [s0, s1, s2] :: oK am [m0, m1, m2] :: oI ao [lA, lB, lC] :: oB abg BIG :: oA ads (si (si DST (tt + iA) (((lA.toInt64) + ((((gj BIG (oo + w0)).toUInt64 >>> (s0 &&& 0x3f).toInt64.toUInt64).toInt64) &&& m0)).toInt32)) (tt + iB) (((lB.toInt64) + ((((gj BIG (oo + w1)).toUInt64 >>> (s1 &&& 0x3f).toInt64.toUInt64).toInt64) &&& m1)).toInt32)) :: F) := V428.putI 7 rfl W443
  have N443 := Fr.snoc X443 N428 (V428.old 7 rfl)
  have Z443 : n0 ≤ h443.size := by rw [W443.size]; exact Z428
  refine og st443 ?_
  refine og (fun _ => XS.iinc X443.here hx rfl (hb hby d77m7_62) rfl (l' := #[rv a, rv abg, iv oo, rv ads, iv tt, iv 2]) rfl) ?_
  refine og (fun _ => XS.goto X443.here hx rfl (pc0 := 65) (pc' := 3) rfl (hb hby d77m7_65) (by decide) (by decide)) ?_
  refine og (fun _ => XS.iload X443.here hx rfl (hb hby d77m7_3) rfl) ?_
  refine og (fun _ => XS.aloadN X443.here hx rfl (hb hby d77m7_5) rfl rfl) ?_
  obtain ⟨T444, X444, e444, st444⟩ := getF X443 hx hZ hown (host := "") (Or.inl (ow hw 121 rfl)) Via.refl e443 (V443.fld 0 rfl 0 rfl rfl) (g := (mkF m 6 #[rv a, rv abg, iv oo, rv ads, iv tt, iv 2] [(.ref a), (.int 2)])) rfl rfl (hb hby d77m7_6)
  refine og st444 ?_
  obtain ⟨cl445, Ar445, S445⟩ := V443.arr 1 rfl
  have ln445 : cl445.slots.size.toInt32 = (3 : Int32) := by rw [own_len S445]; rfl
  refine og (U' := T444.setTop (mkF m 10 #[rv a, rv abg, iv oo, rv ads, iv tt, iv 2] [(.int 3), (.int 2)])) (fun t kt => ?_) ?_
  · refine X444.arraylength hx (by rw [e444]; exact Ar445.1) (State.isArrayOf_alike hZ.alike Ar445.2.1) (g := (mkF m 9 #[rv a, rv abg, iv oo, rv ads, iv tt, iv 2] [(.ref ai), (.int 2)])) rfl rfl (hb hby d77m7_9) _ ?_
    rw [ln445]; exact kt
  refine og (fun _ => XS.icmpNo X444.here hx rfl (hb hby d77m7_10) rfl (tlt (by decide : (2 : Int32) < (3 : Int32))).2.1) ?_
  refine og (fun _ => XS.aloadN X444.here hx rfl (hb hby d77m7_13) rfl rfl) ?_
  refine og (fun _ => XS.iload X444.here hx rfl (hb hby d77m7_14) rfl) ?_
  refine og (fun _ => XS.aloadN X444.here hx rfl (hb hby d77m7_16) rfl rfl) ?_
  show OGets p e below _ (T444.setTop (mkF m 17 #[rv a, rv abg, iv oo, rv ads, iv tt, iv 2] [(.ref a), (.int tt), (.ref ads)]))
  obtain ⟨T447, X447, e447, st447⟩ := getF X444 hx hZ hown (host := "") (Or.inl (ow hw 121 rfl)) Via.refl e444 (V443.fld 0 rfl 0 rfl rfl) (g := (mkF m 17 #[rv a, rv abg, iv oo, rv ads, iv tt, iv 2] [(.ref a), (.int tt), (.ref ads)])) rfl rfl (hb hby d77m7_17)
  refine og st447 ?_
  refine og (fun _ => XS.iload X447.here hx rfl (hb hby d77m7_20) rfl) ?_
  obtain ⟨cl448, Ar448, S448⟩ := V443.arr 1 rfl
  refine og (fun _ => X447.iaload hx (j := (2 : Int32)) (v := (.int iC)) (by rw [e447]; exact Ar448.1) (State.isArrayOf_alike hZ.alike Ar448.2.1) Ar448.2.2 (own_inb S448 2 (by decide) (nb rfl)) (own_get S448 2 (by decide) rfl) (g := (mkF m 22 #[rv a, rv abg, iv oo, rv ads, iv tt, iv 2] [(.int 2), (.ref ai), (.int tt), (.ref ads)])) rfl rfl (hb hby d77m7_22) _) ?_
  refine og (fun _ => XS.iadd X447.here hx rfl (hb hby d77m7_23) rfl) ?_
  refine og (fun _ => XS.aloadN X447.here hx rfl (hb hby d77m7_24) rfl rfl) ?_
  obtain ⟨T449, X449, e449, st449⟩ := getF X447 hx hZ hown (host := "") (Or.inl (ow hw 130 rfl)) Via.refl e447 (V443.fld 0 rfl 4 rfl rfl) (g := (mkF m 25 #[rv a, rv abg, iv oo, rv ads, iv tt, iv 2] [(.ref a), (.int (tt + iC)), (.ref ads)])) rfl rfl (hb hby d77m7_25)
  refine og st449 ?_
  refine og (fun _ => XS.iload X449.here hx rfl (hb hby d77m7_28) rfl) ?_
  obtain ⟨cl450, Ar450, S450⟩ := V443.arr 5 rfl
  refine og (fun _ => X449.iaload hx (j := (2 : Int32)) (v := (.int lC)) (by rw [e449]; exact Ar450.1) (State.isArrayOf_alike hZ.alike Ar450.2.1) Ar450.2.2 (own_inb S450 2 (by decide) (nb rfl)) (own_get S450 2 (by decide) rfl) (g := (mkF m 30 #[rv a, rv abg, iv oo, rv ads, iv tt, iv 2] [(.int 2), (.ref ao), (.int (tt + iC)), (.ref ads)])) rfl rfl (hb hby d77m7_30) _) ?_
  refine og (fun _ => XS.i2l X449.here hx rfl (hb hby d77m7_31) rfl) ?_
  refine og (fun _ => XS.aloadN X449.here hx rfl (hb hby d77m7_32) rfl rfl) ?_
  refine og (fun _ => XS.iloadN X449.here hx rfl (hb hby d77m7_33) rfl) ?_
  show OGets p e below _ (T449.setTop (mkF m 34 #[rv a, rv abg, iv oo, rv ads, iv tt, iv 2] [(.int oo), (.ref abg), (.long (lC.toInt64)), (.int (tt + iC)), (.ref ads)]))
  refine og (fun _ => XS.aloadN X449.here hx rfl (hb hby d77m7_34) rfl rfl) ?_
  obtain ⟨T451, X451, e451, st451⟩ := getF X449 hx hZ hown (host := "") (Or.inl (ow hw 123 rfl)) Via.refl e449 (V443.fld 0 rfl 1 rfl rfl) (g := (mkF m 35 #[rv a, rv abg, iv oo, rv ads, iv tt, iv 2] [(.ref a), (.int oo), (.ref abg), (.long (lC.toInt64)), (.int (tt + iC)), (.ref ads)])) rfl rfl (hb hby d77m7_35)
  refine og st451 ?_
  refine og (fun _ => XS.iload X451.here hx rfl (hb hby d77m7_38) rfl) ?_
  obtain ⟨cl452, Ar452, S452⟩ := V443.arr 2 rfl
  refine og (fun _ => X451.iaload hx (j := (2 : Int32)) (v := (.int w2)) (by rw [e451]; exact Ar452.1) (State.isArrayOf_alike hZ.alike Ar452.2.1) Ar452.2.2 (own_inb S452 2 (by decide) (nb rfl)) (own_get S452 2 (by decide) rfl) (g := (mkF m 40 #[rv a, rv abg, iv oo, rv ads, iv tt, iv 2] [(.int 2), (.ref aw), (.int oo), (.ref abg), (.long (lC.toInt64)), (.int (tt + iC)), (.ref ads)])) rfl rfl (hb hby d77m7_40) _) ?_
  refine og (fun _ => XS.iadd X451.here hx rfl (hb hby d77m7_41) rfl) ?_
  obtain ⟨cl453, Ar453, S453⟩ := V443.arr 6 rfl
  refine og (fun _ => X451.laload hx (j := (oo + w2)) (v := (.long (gj BIG (oo + w2)))) (by rw [e451]; exact Ar453.1) (State.isArrayOf_alike hZ.alike Ar453.2.1) Ar453.2.2 (own_sin (n := 4) S453 (by simp only [List.length_map, si_len, sj_len, List.length_replicate, hlB]) g2) (own_sgetJ (n := 4) S453 (by simp only [List.length_map, si_len, sj_len, List.length_replicate, hlB]) g2) (g := (mkF m 42 #[rv a, rv abg, iv oo, rv ads, iv tt, iv 2] [(.int (oo + w2)), (.ref abg), (.long (lC.toInt64)), (.int (tt + iC)), (.ref ads)])) rfl rfl (hb hby d77m7_42) _) ?_
  refine og (fun _ => XS.aloadN X451.here hx rfl (hb hby d77m7_43) rfl rfl) ?_
  show OGets p e below _ (T451.setTop (mkF m 44 #[rv a, rv abg, iv oo, rv ads, iv tt, iv 2] [(.ref a), (.long (gj BIG (oo + w2))), (.long (lC.toInt64)), (.int (tt + iC)), (.ref ads)]))
  obtain ⟨T454, X454, e454, st454⟩ := getF X451 hx hZ hown (host := "") (Or.inl (ow hw 125 rfl)) Via.refl e451 (V443.fld 0 rfl 2 rfl rfl) (g := (mkF m 44 #[rv a, rv abg, iv oo, rv ads, iv tt, iv 2] [(.ref a), (.long (gj BIG (oo + w2))), (.long (lC.toInt64)), (.int (tt + iC)), (.ref ads)])) rfl rfl (hb hby d77m7_44)
  refine og st454 ?_
  refine og (fun _ => XS.iload X454.here hx rfl (hb hby d77m7_47) rfl) ?_
  obtain ⟨cl455, Ar455, S455⟩ := V443.arr 3 rfl
  refine og (fun _ => X454.iaload hx (j := (2 : Int32)) (v := (.int s2)) (by rw [e454]; exact Ar455.1) (State.isArrayOf_alike hZ.alike Ar455.2.1) Ar455.2.2 (own_inb S455 2 (by decide) (nb rfl)) (own_get S455 2 (by decide) rfl) (g := (mkF m 49 #[rv a, rv abg, iv oo, rv ads, iv tt, iv 2] [(.int 2), (.ref ash), (.long (gj BIG (oo + w2))), (.long (lC.toInt64)), (.int (tt + iC)), (.ref ads)])) rfl rfl (hb hby d77m7_49) _) ?_
  refine og (fun _ => XS.lushr X454.here hx rfl (hb hby d77m7_50) rfl) ?_
  refine og (fun _ => XS.aloadN X454.here hx rfl (hb hby d77m7_51) rfl rfl) ?_
  obtain ⟨T456, X456, e456, st456⟩ := getF X454 hx hZ hown (host := "") (Or.inl (ow hw 128 rfl)) Via.refl e454 (V443.fld 0 rfl 3 rfl rfl) (g := (mkF m 52 #[rv a, rv abg, iv oo, rv ads, iv tt, iv 2] [(.ref a), (.long (((gj BIG (oo + w2)).toUInt64 >>> (s2 &&& 0x3f).toInt64.toUInt64).toInt64)), (.long (lC.toInt64)), (.int (tt + iC)), (.ref ads)])) rfl rfl (hb hby d77m7_52)
  refine og st456 ?_
  refine og (fun _ => XS.iload X456.here hx rfl (hb hby d77m7_55) rfl) ?_
  obtain ⟨cl457, Ar457, S457⟩ := V443.arr 4 rfl
  refine og (fun _ => X456.laload hx (j := (2 : Int32)) (v := (.long m2)) (by rw [e456]; exact Ar457.1) (State.isArrayOf_alike hZ.alike Ar457.2.1) Ar457.2.2 (own_inb S457 2 (by decide) (nb rfl)) (own_get S457 2 (by decide) rfl) (g := (mkF m 57 #[rv a, rv abg, iv oo, rv ads, iv tt, iv 2] [(.int 2), (.ref am), (.long (((gj BIG (oo + w2)).toUInt64 >>> (s2 &&& 0x3f).toInt64.toUInt64).toInt64)), (.long (lC.toInt64)), (.int (tt + iC)), (.ref ads)])) rfl rfl (hb hby d77m7_57) _) ?_
  refine og (fun _ => XS.land X456.here hx rfl (hb hby d77m7_58) rfl) ?_
  refine og (fun _ => XS.ladd X456.here hx rfl (hb hby d77m7_59) rfl) ?_
  refine og (fun _ => XS.l2i X456.here hx rfl (hb hby d77m7_60) rfl) ?_
  show OGets p e below _ (T456.setTop (mkF m 61 #[rv a, rv abg, iv oo, rv ads, iv tt, iv 2] [(.int (((lC.toInt64) + ((((gj BIG (oo + w2)).toUInt64 >>> (s2 &&& 0x3f).toInt64.toUInt64).toInt64) &&& m2)).toInt32)), (.int (tt + iC)), (.ref ads)]))
  obtain ⟨cl458, Ar458, S458⟩ := V443.arr 7 rfl
  obtain ⟨T458, h458, X458, e458, W458, st458⟩ := stI X456 hx hZ e456 Ar458 (j := (tt + iC)) (own_sin (n := 7) S458 (by simp only [List.length_map, si_len, sj_len, List.length_replicate, hlD]) j2) (g := (mkF m 61 #[rv a, rv abg, iv oo, rv ads, iv tt, iv 2] [(.int (((lC.toInt64) + ((((gj BIG (oo + w2)).toUInt64 >>> (s2 &&& 0x3f).toInt64.toUInt64).toInt64) &&& m2)).toInt32)), (.int (tt + iC)), (.ref ads)])) rfl rfl (hb hby d77m7_61)
  have V458 : OView Z n0 h458 (oY a [(.ref ai), (.ref aw), (.ref ash), (.ref am), (.ref ao), (.int wd)] :: oI ai [iA, iB, iC] :: oI aw [w0, w1, w2] :: oI ash [s0, s1, s2] :: oK am [m0, m1, m2] :: oI ao [lA, lB, lC] :: oB abg BIG :: oA ads (si (si (si DST (tt + iA) (((lA.toInt64) + ((((gj BIG (oo + w0)).toUInt64 >>> (s0 &&& 0x3f).toInt64.toUInt64).toInt64) &&& m0)).toInt32)) (tt + iB) (((lB.toInt64) + ((((gj BIG (oo + w1)).toUInt64 >>> (s1 &&& 0x3f).toInt64.toUInt64).toInt64) &&& m1)).toInt32)) (tt + iC) (((lC.toInt64) + ((((gj BIG (oo + w2)).toUInt64 >>> (s2 &&& 0x3f).toInt64.toUInt64).toInt64) &&& m2)).toInt32)) :: F) := V443.putI 7 rfl W458
  have N458 := Fr.snoc X458 N443 (V443.old 7 rfl)
  have Z458 : n0 ≤ h458.size := by rw [W458.size]; exact Z443
  refine og st458 ?_
  refine og (fun _ => XS.iinc X458.here hx rfl (hb hby d77m7_62) rfl (l' := #[rv a, rv abg, iv oo, rv ads, iv tt, iv 3]) rfl) ?_
  refine og (fun _ => XS.goto X458.here hx rfl (pc0 := 65) (pc' := 3) rfl (hb hby d77m7_65) (by decide) (by decide)) ?_
  refine og (fun _ => XS.iload X458.here hx rfl (hb hby d77m7_3) rfl) ?_
  refine og (fun _ => XS.aloadN X458.here hx rfl (hb hby d77m7_5) rfl rfl) ?_
  obtain ⟨T459, X459, e459, st459⟩ := getF X458 hx hZ hown (host := "") (Or.inl (ow hw 121 rfl)) Via.refl e458 (V458.fld 0 rfl 0 rfl rfl) (g := (mkF m 6 #[rv a, rv abg, iv oo, rv ads, iv tt, iv 3] [(.ref a), (.int 3)])) rfl rfl (hb hby d77m7_6)
  refine og st459 ?_
  obtain ⟨cl460, Ar460, S460⟩ := V458.arr 1 rfl
  have ln460 : cl460.slots.size.toInt32 = (3 : Int32) := by rw [own_len S460]; rfl
  refine og (U' := T459.setTop (mkF m 10 #[rv a, rv abg, iv oo, rv ads, iv tt, iv 3] [(.int 3), (.int 3)])) (fun t kt => ?_) ?_
  · refine X459.arraylength hx (by rw [e459]; exact Ar460.1) (State.isArrayOf_alike hZ.alike Ar460.2.1) (g := (mkF m 9 #[rv a, rv abg, iv oo, rv ads, iv tt, iv 3] [(.ref ai), (.int 3)])) rfl rfl (hb hby d77m7_9) _ ?_
    rw [ln460]; exact kt
  refine og (fun _ => XS.icmpYes X459.here hx rfl (pc0 := 10) (pc' := 68) rfl (hb hby d77m7_10) rfl (flt (by decide : ¬ ((3 : Int32) < (3 : Int32)))).2.1 (by decide) (by decide)) ?_
  refine OGets.retV X459 hx hlk Bd.returns (hb hby d77m7_68) (nb rfl) (nb rfl) ?_
  rw [e459]
  exact ⟨rfl, N458, V458⟩
theorem pd_27 : parseMethodDescriptor "(IJ)I" = some ⟨[.int, .long], some .int⟩ := by decide +kernel
theorem pd_28 : parseMethodDescriptor "(IIJ)I" = some ⟨[.int, .int, .long], some .int⟩ := by decide +kernel
theorem pd_29 : parseMethodDescriptor "(II)Lcom/example/inya/inya/Domain;" = some ⟨[.int, .int], some (.object "com/example/inya/inya/Domain")⟩ := by decide +kernel
theorem pd_30 : parseMethodDescriptor "(Ljava/lang/String;Lcom/example/inya/inya/Role;Lcom/example/inya/inya/Domain;ILcom/example/inya/inya/Position;)V" = some ⟨[(.object "java/lang/String"), (.object "com/example/inya/inya/Role"), (.object "com/example/inya/inya/Domain"), .int, (.object "com/example/inya/inya/Position")], none⟩ := by decide +kernel
theorem pd_31 : parseMethodDescriptor "(Ljava/lang/Object;)Z" = some ⟨[(.object "java/lang/Object")], some .boolean⟩ := by decide +kernel
theorem pd_32 : parseMethodDescriptor "(Ljava/util/List;)V" = some ⟨[(.object "java/util/List")], none⟩ := by decide +kernel
theorem pd_33 : parseMethodDescriptor "([I[J)V" = some ⟨[(.array .int), (.array .long)], none⟩ := by decide +kernel
theorem pd_34 : parseMethodDescriptor "([JI[II)V" = some ⟨[(.array .long), .int, (.array .int), .int], none⟩ := by decide +kernel
theorem pd_35 : parseMethodDescriptor "(IIIIIIIII)I" = some ⟨[.int, .int, .int, .int, .int, .int, .int, .int, .int], some .int⟩ := by decide +kernel
theorem ef_law (m : MethodId) (x0 : Int64) (x1 : Int64) (x2 : Int64) (x3 : Int64) (x4 : Int32) (x5 : Int32) : entryFrame m #[(.long x0), (.long x1), (.long x2), (.long x3), (.int x4), (.int x5)] maxLocals = mkF m 0 #[.val (.long x0), .second, .val (.long x1), .second, .val (.long x2), .second, .val (.long x3), .second, .val (.int x4), .val (.int x5), .unset, .unset, .unset, .unset, .unset, .unset, .unset, .unset, .unset, .unset, .unset, .unset, .unset, .unset, .unset, .unset, .unset, .unset, .unset, .unset, .unset, .unset, .unset, .unset] [] := by first | (simp [entryFrame, mkF, argsToLocals, Value.category, maxLocals]; done) | rfl
def Q_law (Z : State) (p0 : Int64) (p1 : Int64) (p2 : Int64) (p3 : Int64) (p4 : Int32) (p5 : Int32) (dS : Addr) (clS : Cell) (h0 : Heap) (n0 : Nat) (v : Option Value) (h : Heap) (L : List Loc) : Prop := v = some (.int 1) ∧ Fr n0 L
set_option maxRecDepth 65536 in
set_option maxHeartbeats 40000000 in
theorem rm_law (l : Launch) (Z : State) (a0 : Array Value) (hw : ∀ d ∈ tables_1, d.before a0 Z = true) (ws : List Jvm.Cond) (p0 : Int64) (p1 : Int64) (p2 : Int64) (p3 : Int64) (p4 : Int32) (p5 : Int32) (dS : Addr) (clS : Cell) (h0 : Heap) (n0 : Nat) (Z0 : n0 ≤ h0.size) (S0 : Sta Z Z.heap "java/util/ArrayList" "DEFAULTCAPACITY_EMPTY_ELEMENTDATA" "[Ljava/lang/Object;" (.ref dS)) (A00 : Arr Z Z.heap dS clS (.object "java/lang/Object")) (hzS : clS.slots.size.toInt32 = (0 : Int32)) (V0 : OView Z n0 h0 ([])) (O0 : Old Z n0 h0) :
    MetFree l x (head1 (Jvm.Cond.code x code maxLocals ret :: ws) room_1) (fun a_ U => a_ = #[(.long p0), (.long p1), (.long p2), (.long p3), (.int p4), (.int p5)] ∧ Z.Warmed39 U.vm ∧ U.heap = h0) (fun _ _ _ _ _ => True) (fun _ U o U' => ∃ v L, o = .returned v ∧ Q_law Z p0 p1 p2 p3 p4 p5 dS clS h0 n0 v U'.heap L ∧ FrameEnd U o U' L 48 256) := by
  refine MetFree.of_bodySF (plainFor_of_name pn_0) hisR ?_
  intro p e s m args below meth c s₁ Bd hml0 hP hK
  obtain ⟨rfl, hZ, hh⟩ := hP
  have hx := Bd.exec
  have hby := Bd.bytes
  have hlk : meth.locks = false := Bd.notSynchronized
  have hml : c.maxLocals = 34 := hml0
  have hown : s.vm.findClass "com/example/inya/inya/StateLayoutUnpackPinLaw" = some m.cls := findClass_of_methodNamed Bd.named
  have hnm := (name_of_methodNamed Bd.named Bd.method).1
  have X0 : Stand p l e room_1 s m #[(.long p0), (.long p1), (.long p2), (.long p3), (.int p4), (.int p5)] below meth c s₁ [] 0 0 := Stand.of_body Bd
  have e0 : s₁.heap = h0 := by rw [← hh, Bd.state]; rfl
  have N0 := Fr.nil n0
  show OGets p e below (OLeaves s (Q_law Z p0 p1 p2 p3 p4 p5 dS clS h0 n0 ) 48 256) _
  refine OGets.enter (ef_law m p0 p1 p2 p3 p4 p5) ?_
  show OGets p e below _ (s₁.setTop (mkF m 0 #[jv p0, sv, jv p1, sv, jv p2, sv, jv p3, sv, iv p4, iv p5, uv, uv, uv, uv, uv, uv, uv, uv, uv, uv, uv, uv, uv, uv, uv, uv, uv, uv, uv, uv, uv, uv, uv, uv] []))
  refine og (fun _ => XS.lloadN X0.here hx rfl (hb hby at_0) rfl) ?_
  refine og (fun _ => XS.bipush X0.here hx rfl (hb hby at_1)) ?_
  refine og (fun _ => XS.lshr X0.here hx rfl (hb hby at_3) rfl) ?_
  refine og (fun _ => XS.l2i X0.here hx rfl (hb hby at_4) rfl) ?_
  show OGets p e below _ (s₁.setTop (mkF m 5 #[jv p0, sv, jv p1, sv, jv p2, sv, jv p3, sv, iv p4, iv p5, uv, uv, uv, uv, uv, uv, uv, uv, uv, uv, uv, uv, uv, uv, uv, uv, uv, uv, uv, uv, uv, uv, uv, uv] [(.int ((p0 >>> ((32 : Int32) &&& 0x3f).toInt64).toInt32))]))
  generalize ((p0 >>> ((32 : Int32) &&& 0x3f).toInt64).toInt32) = lA
  show OGets p e below _ (s₁.setTop (mkF m 5 #[jv p0, sv, jv p1, sv, jv p2, sv, jv p3, sv, iv p4, iv p5, uv, uv, uv, uv, uv, uv, uv, uv, uv, uv, uv, uv, uv, uv, uv, uv, uv, uv, uv, uv, uv, uv, uv, uv] [(.int lA)]))
  refine og (fun _ => XS.istore X0.here hx rfl (hb hby at_5) rfl (l' := #[jv p0, sv, jv p1, sv, jv p2, sv, jv p3, sv, iv p4, iv p5, iv lA, uv, uv, uv, uv, uv, uv, uv, uv, uv, uv, uv, uv, uv, uv, uv, uv, uv, uv, uv, uv, uv, uv, uv]) rfl) ?_
  refine og (fun _ => XS.iload X0.here hx rfl (hb hby at_7) rfl) ?_
  refine og (fun _ => XS.lloadN X0.here hx rfl (hb hby at_9) rfl) ?_
  refine og (fun _ => X0.ldc2Long hx hown (mvT hZ (ow hw 0 rfl)) (g := (mkF m 10 #[jv p0, sv, jv p1, sv, jv p2, sv, jv p3, sv, iv p4, iv p5, iv lA, uv, uv, uv, uv, uv, uv, uv, uv, uv, uv, uv, uv, uv, uv, uv, uv, uv, uv, uv, uv, uv, uv, uv] [(.long p0), (.int lA)])) rfl (hb hby at_10) _) ?_
  refine og (fun _ => XS.land X0.here hx rfl (hb hby at_13) rfl) ?_
  obtain ⟨_, _, ⟨T462, L462, k462, n462⟩, -, X462, ⟨Lc462, hQ462, l462, y462, z462⟩, st462⟩ := Jvm.LawKit.callS X0 hx (y := (⟨"com/example/inya/inya/StateLayoutUnpackPinLaw", "hiOf", "(IJ)I"⟩ : MethodName)) hown (mvT hZ (ow hw 1 rfl)) (mvT hZ (ow hw 2 rfl)) (mvT hZ (ow hw 3 rfl)) (mvT hZ (ow hw 4 rfl)) (by decide) (backOf (W := 0) (rm_hi l Z a0 hw [] lA (p0 &&& (4294967295 : Int64)) h0 n0  Z0 ) hZ (ow hw 4 rfl) (ow hw 3 rfl) (by decide) (by decide)) (g := (mkF m 14 #[jv p0, sv, jv p1, sv, jv p2, sv, jv p3, sv, iv p4, iv p5, iv lA, uv, uv, uv, uv, uv, uv, uv, uv, uv, uv, uv, uv, uv, uv, uv, uv, uv, uv, uv, uv, uv, uv, uv] [(.long (p0 &&& (4294967295 : Int64))), (.int lA)])) rfl (by rw [hml]; rfl) (argsL := [(.int lA), (.long (p0 &&& (4294967295 : Int64)))]) (rest := []) (lenOf pd_27 rfl) rfl (by show 2 * 0 + _ ≤ _; exact Nat.le_of_eq rfl) (hb hby at_14) (fun _ _ => ⟨rfl, e0, nb rfl, nb rfl⟩)
  dsimp only [Pt.U, Pt.locs, Pt.cells, Pt.slots] at X462 l462 y462 z462 st462 hQ462
  rw [l462, y462, z462] at X462
  obtain ⟨rfl, rfl, e462⟩ := hQ462
  have N462 := Fr.app N0 (Fr.nil n0)
  refine og st462 ?_
  show OGets p e below _ (T462.setTop (mkF m 17 #[jv p0, sv, jv p1, sv, jv p2, sv, jv p3, sv, iv p4, iv p5, iv lA, uv, uv, uv, uv, uv, uv, uv, uv, uv, uv, uv, uv, uv, uv, uv, uv, uv, uv, uv, uv, uv, uv, uv] [(.int (f_hi lA (p0 &&& (4294967295 : Int64))))]))
  have nA := own_hi lA p0
  generalize (f_hi lA (p0 &&& (4294967295 : Int64))) = hA at nA ⊢
  show OGets p e below _ (T462.setTop (mkF m 17 #[jv p0, sv, jv p1, sv, jv p2, sv, jv p3, sv, iv p4, iv p5, iv lA, uv, uv, uv, uv, uv, uv, uv, uv, uv, uv, uv, uv, uv, uv, uv, uv, uv, uv, uv, uv, uv, uv, uv] [(.int hA)]))
  refine og (fun _ => XS.istore X462.here hx rfl (hb hby at_17) rfl (l' := #[jv p0, sv, jv p1, sv, jv p2, sv, jv p3, sv, iv p4, iv p5, iv lA, iv hA, uv, uv, uv, uv, uv, uv, uv, uv, uv, uv, uv, uv, uv, uv, uv, uv, uv, uv, uv, uv, uv, uv]) rfl) ?_
  refine og (fun _ => XS.lloadN X462.here hx rfl (hb hby at_19) rfl) ?_
  refine og (fun _ => XS.bipush X462.here hx rfl (hb hby at_20)) ?_
  refine og (fun _ => XS.lshr X462.here hx rfl (hb hby at_22) rfl) ?_
  refine og (fun _ => XS.l2i X462.here hx rfl (hb hby at_23) rfl) ?_
  show OGets p e below _ (T462.setTop (mkF m 24 #[jv p0, sv, jv p1, sv, jv p2, sv, jv p3, sv, iv p4, iv p5, iv lA, iv hA, uv, uv, uv, uv, uv, uv, uv, uv, uv, uv, uv, uv, uv, uv, uv, uv, uv, uv, uv, uv, uv, uv] [(.int ((p1 >>> ((32 : Int32) &&& 0x3f).toInt64).toInt32))]))
  generalize ((p1 >>> ((32 : Int32) &&& 0x3f).toInt64).toInt32) = lB
  show OGets p e below _ (T462.setTop (mkF m 24 #[jv p0, sv, jv p1, sv, jv p2, sv, jv p3, sv, iv p4, iv p5, iv lA, iv hA, uv, uv, uv, uv, uv, uv, uv, uv, uv, uv, uv, uv, uv, uv, uv, uv, uv, uv, uv, uv, uv, uv] [(.int lB)]))
  refine og (fun _ => XS.istore X462.here hx rfl (hb hby at_24) rfl (l' := #[jv p0, sv, jv p1, sv, jv p2, sv, jv p3, sv, iv p4, iv p5, iv lA, iv hA, iv lB, uv, uv, uv, uv, uv, uv, uv, uv, uv, uv, uv, uv, uv, uv, uv, uv, uv, uv, uv, uv, uv]) rfl) ?_
  refine og (fun _ => XS.iload X462.here hx rfl (hb hby at_26) rfl) ?_
  refine og (fun _ => XS.lloadN X462.here hx rfl (hb hby at_28) rfl) ?_
  refine og (fun _ => X462.ldc2Long hx hown (mvT hZ (ow hw 0 rfl)) (g := (mkF m 29 #[jv p0, sv, jv p1, sv, jv p2, sv, jv p3, sv, iv p4, iv p5, iv lA, iv hA, iv lB, uv, uv, uv, uv, uv, uv, uv, uv, uv, uv, uv, uv, uv, uv, uv, uv, uv, uv, uv, uv, uv] [(.long p1), (.int lB)])) rfl (hb hby at_29) _) ?_
  refine og (fun _ => XS.land X462.here hx rfl (hb hby at_32) rfl) ?_
  obtain ⟨_, _, ⟨T463, L463, k463, n463⟩, -, X463, ⟨Lc463, hQ463, l463, y463, z463⟩, st463⟩ := Jvm.LawKit.callS X462 hx (y := (⟨"com/example/inya/inya/StateLayoutUnpackPinLaw", "hiOf", "(IJ)I"⟩ : MethodName)) hown (mvT hZ (ow hw 1 rfl)) (mvT hZ (ow hw 2 rfl)) (mvT hZ (ow hw 3 rfl)) (mvT hZ (ow hw 4 rfl)) (by decide) (backOf (W := 0) (rm_hi l Z a0 hw [] lB (p1 &&& (4294967295 : Int64)) h0 n0  Z0 ) hZ (ow hw 4 rfl) (ow hw 3 rfl) (by decide) (by decide)) (g := (mkF m 33 #[jv p0, sv, jv p1, sv, jv p2, sv, jv p3, sv, iv p4, iv p5, iv lA, iv hA, iv lB, uv, uv, uv, uv, uv, uv, uv, uv, uv, uv, uv, uv, uv, uv, uv, uv, uv, uv, uv, uv, uv] [(.long (p1 &&& (4294967295 : Int64))), (.int lB)])) rfl (by rw [hml]; rfl) (argsL := [(.int lB), (.long (p1 &&& (4294967295 : Int64)))]) (rest := []) (lenOf pd_27 rfl) rfl (by show 2 * 0 + _ ≤ _; exact Nat.le_of_eq rfl) (hb hby at_33) (fun _ _ => ⟨rfl, e462, nb rfl, nb rfl⟩)
  dsimp only [Pt.U, Pt.locs, Pt.cells, Pt.slots] at X463 l463 y463 z463 st463 hQ463
  rw [l463, y463, z463] at X463
  obtain ⟨rfl, rfl, e463⟩ := hQ463
  have N463 := Fr.app N462 (Fr.nil n0)
  refine og st463 ?_
  show OGets p e below _ (T463.setTop (mkF m 36 #[jv p0, sv, jv p1, sv, jv p2, sv, jv p3, sv, iv p4, iv p5, iv lA, iv hA, iv lB, uv, uv, uv, uv, uv, uv, uv, uv, uv, uv, uv, uv, uv, uv, uv, uv, uv, uv, uv, uv, uv] [(.int (f_hi lB (p1 &&& (4294967295 : Int64))))]))
  have nB := own_hi lB p1
  generalize (f_hi lB (p1 &&& (4294967295 : Int64))) = hB at nB ⊢
  show OGets p e below _ (T463.setTop (mkF m 36 #[jv p0, sv, jv p1, sv, jv p2, sv, jv p3, sv, iv p4, iv p5, iv lA, iv hA, iv lB, uv, uv, uv, uv, uv, uv, uv, uv, uv, uv, uv, uv, uv, uv, uv, uv, uv, uv, uv, uv, uv] [(.int hB)]))
  refine og (fun _ => XS.istore X463.here hx rfl (hb hby at_36) rfl (l' := #[jv p0, sv, jv p1, sv, jv p2, sv, jv p3, sv, iv p4, iv p5, iv lA, iv hA, iv lB, iv hB, uv, uv, uv, uv, uv, uv, uv, uv, uv, uv, uv, uv, uv, uv, uv, uv, uv, uv, uv, uv]) rfl) ?_
  refine og (fun _ => XS.lload X463.here hx rfl (hb hby at_38) rfl) ?_
  refine og (fun _ => XS.bipush X463.here hx rfl (hb hby at_40)) ?_
  refine og (fun _ => XS.lshr X463.here hx rfl (hb hby at_42) rfl) ?_
  refine og (fun _ => XS.l2i X463.here hx rfl (hb hby at_43) rfl) ?_
  show OGets p e below _ (T463.setTop (mkF m 44 #[jv p0, sv, jv p1, sv, jv p2, sv, jv p3, sv, iv p4, iv p5, iv lA, iv hA, iv lB, iv hB, uv, uv, uv, uv, uv, uv, uv, uv, uv, uv, uv, uv, uv, uv, uv, uv, uv, uv, uv, uv] [(.int ((p2 >>> ((32 : Int32) &&& 0x3f).toInt64).toInt32))]))
  generalize ((p2 >>> ((32 : Int32) &&& 0x3f).toInt64).toInt32) = lC
  show OGets p e below _ (T463.setTop (mkF m 44 #[jv p0, sv, jv p1, sv, jv p2, sv, jv p3, sv, iv p4, iv p5, iv lA, iv hA, iv lB, iv hB, uv, uv, uv, uv, uv, uv, uv, uv, uv, uv, uv, uv, uv, uv, uv, uv, uv, uv, uv, uv] [(.int lC)]))
  refine og (fun _ => XS.istore X463.here hx rfl (hb hby at_44) rfl (l' := #[jv p0, sv, jv p1, sv, jv p2, sv, jv p3, sv, iv p4, iv p5, iv lA, iv hA, iv lB, iv hB, iv lC, uv, uv, uv, uv, uv, uv, uv, uv, uv, uv, uv, uv, uv, uv, uv, uv, uv, uv, uv]) rfl) ?_
  refine og (fun _ => XS.iload X463.here hx rfl (hb hby at_46) rfl) ?_
  refine og (fun _ => XS.lload X463.here hx rfl (hb hby at_48) rfl) ?_
  refine og (fun _ => X463.ldc2Long hx hown (mvT hZ (ow hw 0 rfl)) (g := (mkF m 50 #[jv p0, sv, jv p1, sv, jv p2, sv, jv p3, sv, iv p4, iv p5, iv lA, iv hA, iv lB, iv hB, iv lC, uv, uv, uv, uv, uv, uv, uv, uv, uv, uv, uv, uv, uv, uv, uv, uv, uv, uv, uv] [(.long p2), (.int lC)])) rfl (hb hby at_50) _) ?_
  refine og (fun _ => XS.land X463.here hx rfl (hb hby at_53) rfl) ?_
  obtain ⟨_, _, ⟨T464, L464, k464, n464⟩, -, X464, ⟨Lc464, hQ464, l464, y464, z464⟩, st464⟩ := Jvm.LawKit.callS X463 hx (y := (⟨"com/example/inya/inya/StateLayoutUnpackPinLaw", "hiOf", "(IJ)I"⟩ : MethodName)) hown (mvT hZ (ow hw 1 rfl)) (mvT hZ (ow hw 2 rfl)) (mvT hZ (ow hw 3 rfl)) (mvT hZ (ow hw 4 rfl)) (by decide) (backOf (W := 0) (rm_hi l Z a0 hw [] lC (p2 &&& (4294967295 : Int64)) h0 n0  Z0 ) hZ (ow hw 4 rfl) (ow hw 3 rfl) (by decide) (by decide)) (g := (mkF m 54 #[jv p0, sv, jv p1, sv, jv p2, sv, jv p3, sv, iv p4, iv p5, iv lA, iv hA, iv lB, iv hB, iv lC, uv, uv, uv, uv, uv, uv, uv, uv, uv, uv, uv, uv, uv, uv, uv, uv, uv, uv, uv] [(.long (p2 &&& (4294967295 : Int64))), (.int lC)])) rfl (by rw [hml]; rfl) (argsL := [(.int lC), (.long (p2 &&& (4294967295 : Int64)))]) (rest := []) (lenOf pd_27 rfl) rfl (by show 2 * 0 + _ ≤ _; exact Nat.le_of_eq rfl) (hb hby at_54) (fun _ _ => ⟨rfl, e463, nb rfl, nb rfl⟩)
  dsimp only [Pt.U, Pt.locs, Pt.cells, Pt.slots] at X464 l464 y464 z464 st464 hQ464
  rw [l464, y464, z464] at X464
  obtain ⟨rfl, rfl, e464⟩ := hQ464
  have N464 := Fr.app N463 (Fr.nil n0)
  refine og st464 ?_
  show OGets p e below _ (T464.setTop (mkF m 57 #[jv p0, sv, jv p1, sv, jv p2, sv, jv p3, sv, iv p4, iv p5, iv lA, iv hA, iv lB, iv hB, iv lC, uv, uv, uv, uv, uv, uv, uv, uv, uv, uv, uv, uv, uv, uv, uv, uv, uv, uv, uv] [(.int (f_hi lC (p2 &&& (4294967295 : Int64))))]))
  have nC := own_hi lC p2
  generalize (f_hi lC (p2 &&& (4294967295 : Int64))) = hC at nC ⊢
  show OGets p e below _ (T464.setTop (mkF m 57 #[jv p0, sv, jv p1, sv, jv p2, sv, jv p3, sv, iv p4, iv p5, iv lA, iv hA, iv lB, iv hB, iv lC, uv, uv, uv, uv, uv, uv, uv, uv, uv, uv, uv, uv, uv, uv, uv, uv, uv, uv, uv] [(.int hC)]))
  refine og (fun _ => XS.istore X464.here hx rfl (hb hby at_57) rfl (l' := #[jv p0, sv, jv p1, sv, jv p2, sv, jv p3, sv, iv p4, iv p5, iv lA, iv hA, iv lB, iv hB, iv lC, iv hC, uv, uv, uv, uv, uv, uv, uv, uv, uv, uv, uv, uv, uv, uv, uv, uv, uv, uv]) rfl) ?_
  refine og (fun _ => XS.iload X464.here hx rfl (hb hby at_59) rfl) ?_
  refine og (fun _ => XS.iload X464.here hx rfl (hb hby at_61) rfl) ?_
  refine og (fun _ => XS.lload X464.here hx rfl (hb hby at_63) rfl) ?_
  refine og (fun _ => XS.bipush X464.here hx rfl (hb hby at_65)) ?_
  refine og (fun _ => XS.lushr X464.here hx rfl (hb hby at_67) rfl) ?_
  show OGets p e below _ (T464.setTop (mkF m 68 #[jv p0, sv, jv p1, sv, jv p2, sv, jv p3, sv, iv p4, iv p5, iv lA, iv hA, iv lB, iv hB, iv lC, iv hC, uv, uv, uv, uv, uv, uv, uv, uv, uv, uv, uv, uv, uv, uv, uv, uv, uv, uv] [(.long ((p3.toUInt64 >>> ((32 : Int32) &&& 0x3f).toInt64.toUInt64).toInt64)), (.int hA), (.int lA)]))
  obtain ⟨_, _, ⟨T465, L465, k465, n465⟩, -, X465, ⟨Lc465, hQ465, l465, y465, z465⟩, st465⟩ := Jvm.LawKit.callS X464 hx (y := (⟨"com/example/inya/inya/StateLayoutUnpackPinLaw", "pick", "(IIJ)I"⟩ : MethodName)) hown (mvT hZ (ow hw 6 rfl)) (mvT hZ (ow hw 7 rfl)) (mvT hZ (ow hw 3 rfl)) (mvT hZ (ow hw 8 rfl)) (by decide) (backOf (W := 0) (rm_pk l Z a0 hw [] lA hA ((p3.toUInt64 >>> ((32 : Int32) &&& 0x3f).toInt64.toUInt64).toInt64) h0 n0  Z0 nA) hZ (ow hw 8 rfl) (ow hw 3 rfl) (by decide) (by decide)) (g := (mkF m 68 #[jv p0, sv, jv p1, sv, jv p2, sv, jv p3, sv, iv p4, iv p5, iv lA, iv hA, iv lB, iv hB, iv lC, iv hC, uv, uv, uv, uv, uv, uv, uv, uv, uv, uv, uv, uv, uv, uv, uv, uv, uv, uv] [(.long ((p3.toUInt64 >>> ((32 : Int32) &&& 0x3f).toInt64.toUInt64).toInt64)), (.int hA), (.int lA)])) rfl (by rw [hml]; rfl) (argsL := [(.int lA), (.int hA), (.long ((p3.toUInt64 >>> ((32 : Int32) &&& 0x3f).toInt64.toUInt64).toInt64))]) (rest := []) (lenOf pd_28 rfl) rfl (by show 2 * 0 + _ ≤ _; exact Nat.le_of_eq rfl) (hb hby at_68) (fun _ _ => ⟨rfl, e464, nb rfl, nb rfl⟩)
  dsimp only [Pt.U, Pt.locs, Pt.cells, Pt.slots] at X465 l465 y465 z465 st465 hQ465
  rw [l465, y465, z465] at X465
  obtain ⟨rfl, rfl, e465⟩ := hQ465
  have N465 := Fr.app N464 (Fr.nil n0)
  refine og st465 ?_
  show OGets p e below _ (T465.setTop (mkF m 71 #[jv p0, sv, jv p1, sv, jv p2, sv, jv p3, sv, iv p4, iv p5, iv lA, iv hA, iv lB, iv hB, iv lC, iv hC, uv, uv, uv, uv, uv, uv, uv, uv, uv, uv, uv, uv, uv, uv, uv, uv, uv, uv] [(.int (f_pk lA hA ((p3.toUInt64 >>> ((32 : Int32) &&& 0x3f).toInt64.toUInt64).toInt64)))]))
  have rA := own_pk lA hA _ nA (own_uA p3)
  generalize (f_pk lA hA ((p3.toUInt64 >>> ((32 : Int32) &&& 0x3f).toInt64.toUInt64).toInt64)) = vA at rA ⊢
  show OGets p e below _ (T465.setTop (mkF m 71 #[jv p0, sv, jv p1, sv, jv p2, sv, jv p3, sv, iv p4, iv p5, iv lA, iv hA, iv lB, iv hB, iv lC, iv hC, uv, uv, uv, uv, uv, uv, uv, uv, uv, uv, uv, uv, uv, uv, uv, uv, uv, uv] [(.int vA)]))
  refine og (fun _ => XS.istore X465.here hx rfl (hb hby at_71) rfl (l' := #[jv p0, sv, jv p1, sv, jv p2, sv, jv p3, sv, iv p4, iv p5, iv lA, iv hA, iv lB, iv hB, iv lC, iv hC, iv vA, uv, uv, uv, uv, uv, uv, uv, uv, uv, uv, uv, uv, uv, uv, uv, uv, uv]) rfl) ?_
  refine og (fun _ => XS.iload X465.here hx rfl (hb hby at_73) rfl) ?_
  refine og (fun _ => XS.iload X465.here hx rfl (hb hby at_75) rfl) ?_
  refine og (fun _ => XS.lload X465.here hx rfl (hb hby at_77) rfl) ?_
  refine og (fun _ => X465.ldc2Long hx hown (mvT hZ (ow hw 0 rfl)) (g := (mkF m 79 #[jv p0, sv, jv p1, sv, jv p2, sv, jv p3, sv, iv p4, iv p5, iv lA, iv hA, iv lB, iv hB, iv lC, iv hC, iv vA, uv, uv, uv, uv, uv, uv, uv, uv, uv, uv, uv, uv, uv, uv, uv, uv, uv] [(.long p3), (.int hB), (.int lB)])) rfl (hb hby at_79) _) ?_
  refine og (fun _ => XS.land X465.here hx rfl (hb hby at_82) rfl) ?_
  show OGets p e below _ (T465.setTop (mkF m 83 #[jv p0, sv, jv p1, sv, jv p2, sv, jv p3, sv, iv p4, iv p5, iv lA, iv hA, iv lB, iv hB, iv lC, iv hC, iv vA, uv, uv, uv, uv, uv, uv, uv, uv, uv, uv, uv, uv, uv, uv, uv, uv, uv] [(.long (p3 &&& (4294967295 : Int64))), (.int hB), (.int lB)]))
  obtain ⟨_, _, ⟨T466, L466, k466, n466⟩, -, X466, ⟨Lc466, hQ466, l466, y466, z466⟩, st466⟩ := Jvm.LawKit.callS X465 hx (y := (⟨"com/example/inya/inya/StateLayoutUnpackPinLaw", "pick", "(IIJ)I"⟩ : MethodName)) hown (mvT hZ (ow hw 6 rfl)) (mvT hZ (ow hw 7 rfl)) (mvT hZ (ow hw 3 rfl)) (mvT hZ (ow hw 8 rfl)) (by decide) (backOf (W := 0) (rm_pk l Z a0 hw [] lB hB (p3 &&& (4294967295 : Int64)) h0 n0  Z0 nB) hZ (ow hw 8 rfl) (ow hw 3 rfl) (by decide) (by decide)) (g := (mkF m 83 #[jv p0, sv, jv p1, sv, jv p2, sv, jv p3, sv, iv p4, iv p5, iv lA, iv hA, iv lB, iv hB, iv lC, iv hC, iv vA, uv, uv, uv, uv, uv, uv, uv, uv, uv, uv, uv, uv, uv, uv, uv, uv, uv] [(.long (p3 &&& (4294967295 : Int64))), (.int hB), (.int lB)])) rfl (by rw [hml]; rfl) (argsL := [(.int lB), (.int hB), (.long (p3 &&& (4294967295 : Int64)))]) (rest := []) (lenOf pd_28 rfl) rfl (by show 2 * 0 + _ ≤ _; exact Nat.le_of_eq rfl) (hb hby at_83) (fun _ _ => ⟨rfl, e465, nb rfl, nb rfl⟩)
  dsimp only [Pt.U, Pt.locs, Pt.cells, Pt.slots] at X466 l466 y466 z466 st466 hQ466
  rw [l466, y466, z466] at X466
  obtain ⟨rfl, rfl, e466⟩ := hQ466
  have N466 := Fr.app N465 (Fr.nil n0)
  refine og st466 ?_
  show OGets p e below _ (T466.setTop (mkF m 86 #[jv p0, sv, jv p1, sv, jv p2, sv, jv p3, sv, iv p4, iv p5, iv lA, iv hA, iv lB, iv hB, iv lC, iv hC, iv vA, uv, uv, uv, uv, uv, uv, uv, uv, uv, uv, uv, uv, uv, uv, uv, uv, uv] [(.int (f_pk lB hB (p3 &&& (4294967295 : Int64))))]))
  have rB := own_pk lB hB _ nB (own_uB p3)
  generalize (f_pk lB hB (p3 &&& (4294967295 : Int64))) = vB at rB ⊢
  show OGets p e below _ (T466.setTop (mkF m 86 #[jv p0, sv, jv p1, sv, jv p2, sv, jv p3, sv, iv p4, iv p5, iv lA, iv hA, iv lB, iv hB, iv lC, iv hC, iv vA, uv, uv, uv, uv, uv, uv, uv, uv, uv, uv, uv, uv, uv, uv, uv, uv, uv] [(.int vB)]))
  refine og (fun _ => XS.istore X466.here hx rfl (hb hby at_86) rfl (l' := #[jv p0, sv, jv p1, sv, jv p2, sv, jv p3, sv, iv p4, iv p5, iv lA, iv hA, iv lB, iv hB, iv lC, iv hC, iv vA, iv vB, uv, uv, uv, uv, uv, uv, uv, uv, uv, uv, uv, uv, uv, uv, uv, uv]) rfl) ?_
  refine og (fun _ => XS.iload X466.here hx rfl (hb hby at_88) rfl) ?_
  refine og (fun _ => XS.iload X466.here hx rfl (hb hby at_90) rfl) ?_
  refine og (fun _ => XS.iload X466.here hx rfl (hb hby at_92) rfl) ?_
  refine og (fun _ => XS.i2l X466.here hx rfl (hb hby at_94) rfl) ?_
  refine og (fun _ => X466.ldc2Long hx hown (mvT hZ (ow hw 0 rfl)) (g := (mkF m 95 #[jv p0, sv, jv p1, sv, jv p2, sv, jv p3, sv, iv p4, iv p5, iv lA, iv hA, iv lB, iv hB, iv lC, iv hC, iv vA, iv vB, uv, uv, uv, uv, uv, uv, uv, uv, uv, uv, uv, uv, uv, uv, uv, uv] [(.long (p4.toInt64)), (.int hC), (.int lC)])) rfl (hb hby at_95) _) ?_
  show OGets p e below _ (T466.setTop (mkF m 98 #[jv p0, sv, jv p1, sv, jv p2, sv, jv p3, sv, iv p4, iv p5, iv lA, iv hA, iv lB, iv hB, iv lC, iv hC, iv vA, iv vB, uv, uv, uv, uv, uv, uv, uv, uv, uv, uv, uv, uv, uv, uv, uv, uv] [(.long (4294967295 : Int64)), (.long (p4.toInt64)), (.int hC), (.int lC)]))
  refine og (fun _ => XS.land X466.here hx rfl (hb hby at_98) rfl) ?_
  obtain ⟨_, _, ⟨T467, L467, k467, n467⟩, -, X467, ⟨Lc467, hQ467, l467, y467, z467⟩, st467⟩ := Jvm.LawKit.callS X466 hx (y := (⟨"com/example/inya/inya/StateLayoutUnpackPinLaw", "pick", "(IIJ)I"⟩ : MethodName)) hown (mvT hZ (ow hw 6 rfl)) (mvT hZ (ow hw 7 rfl)) (mvT hZ (ow hw 3 rfl)) (mvT hZ (ow hw 8 rfl)) (by decide) (backOf (W := 0) (rm_pk l Z a0 hw [] lC hC ((p4.toInt64) &&& (4294967295 : Int64)) h0 n0  Z0 nC) hZ (ow hw 8 rfl) (ow hw 3 rfl) (by decide) (by decide)) (g := (mkF m 99 #[jv p0, sv, jv p1, sv, jv p2, sv, jv p3, sv, iv p4, iv p5, iv lA, iv hA, iv lB, iv hB, iv lC, iv hC, iv vA, iv vB, uv, uv, uv, uv, uv, uv, uv, uv, uv, uv, uv, uv, uv, uv, uv, uv] [(.long ((p4.toInt64) &&& (4294967295 : Int64))), (.int hC), (.int lC)])) rfl (by rw [hml]; rfl) (argsL := [(.int lC), (.int hC), (.long ((p4.toInt64) &&& (4294967295 : Int64)))]) (rest := []) (lenOf pd_28 rfl) rfl (by show 2 * 0 + _ ≤ _; exact Nat.le_of_eq rfl) (hb hby at_99) (fun _ _ => ⟨rfl, e466, nb rfl, nb rfl⟩)
  dsimp only [Pt.U, Pt.locs, Pt.cells, Pt.slots] at X467 l467 y467 z467 st467 hQ467
  rw [l467, y467, z467] at X467
  obtain ⟨rfl, rfl, e467⟩ := hQ467
  have N467 := Fr.app N466 (Fr.nil n0)
  refine og st467 ?_
  show OGets p e below _ (T467.setTop (mkF m 102 #[jv p0, sv, jv p1, sv, jv p2, sv, jv p3, sv, iv p4, iv p5, iv lA, iv hA, iv lB, iv hB, iv lC, iv hC, iv vA, iv vB, uv, uv, uv, uv, uv, uv, uv, uv, uv, uv, uv, uv, uv, uv, uv, uv] [(.int (f_pk lC hC ((p4.toInt64) &&& (4294967295 : Int64))))]))
  have rC := own_pk lC hC _ nC (own_uB (p4.toInt64))
  generalize (f_pk lC hC ((p4.toInt64) &&& (4294967295 : Int64))) = vC at rC ⊢
  show OGets p e below _ (T467.setTop (mkF m 102 #[jv p0, sv, jv p1, sv, jv p2, sv, jv p3, sv, iv p4, iv p5, iv lA, iv hA, iv lB, iv hB, iv lC, iv hC, iv vA, iv vB, uv, uv, uv, uv, uv, uv, uv, uv, uv, uv, uv, uv, uv, uv, uv, uv] [(.int vC)]))
  refine og (fun _ => XS.istore X467.here hx rfl (hb hby at_102) rfl (l' := #[jv p0, sv, jv p1, sv, jv p2, sv, jv p3, sv, iv p4, iv p5, iv lA, iv hA, iv lB, iv hB, iv lC, iv hC, iv vA, iv vB, iv vC, uv, uv, uv, uv, uv, uv, uv, uv, uv, uv, uv, uv, uv, uv, uv]) rfl) ?_
  refine og (fun _ => XS.iload X467.here hx rfl (hb hby at_104) rfl) ?_
  refine og (fun _ => XS.iconst X467.here hx rfl (hb hby at_106)) ?_
  refine og (fun _ => XS.iand X467.here hx rfl (hb hby at_107) rfl) ?_
  refine og (fun _ => XS.iconst X467.here hx rfl (hb hby at_108)) ?_
  refine og (fun _ => iremM (g := (mkF m 109 #[jv p0, sv, jv p1, sv, jv p2, sv, jv p3, sv, iv p4, iv p5, iv lA, iv hA, iv lB, iv hB, iv lC, iv hC, iv vA, iv vB, iv vC, uv, uv, uv, uv, uv, uv, uv, uv, uv, uv, uv, uv, uv, uv, uv] [(.int 3), (.int (p5 &&& (3 : Int32)))])) X467 hx rfl (hb hby at_109) rfl (by decide)) ?_
  show OGets p e below _ (T467.setTop (mkF m 110 #[jv p0, sv, jv p1, sv, jv p2, sv, jv p3, sv, iv p4, iv p5, iv lA, iv hA, iv lB, iv hB, iv lC, iv hC, iv vA, iv vB, iv vC, uv, uv, uv, uv, uv, uv, uv, uv, uv, uv, uv, uv, uv, uv, uv] [(.int ((p5 &&& (3 : Int32)) % (3 : Int32)))]))
  have hoo := own_off p5
  generalize ((p5 &&& (3 : Int32)) % (3 : Int32)) = oo at hoo ⊢
  show OGets p e below _ (T467.setTop (mkF m 110 #[jv p0, sv, jv p1, sv, jv p2, sv, jv p3, sv, iv p4, iv p5, iv lA, iv hA, iv lB, iv hB, iv lC, iv hC, iv vA, iv vB, iv vC, uv, uv, uv, uv, uv, uv, uv, uv, uv, uv, uv, uv, uv, uv, uv] [(.int oo)]))
  refine og (fun _ => XS.istore X467.here hx rfl (hb hby at_110) rfl (l' := #[jv p0, sv, jv p1, sv, jv p2, sv, jv p3, sv, iv p4, iv p5, iv lA, iv hA, iv lB, iv hB, iv lC, iv hC, iv vA, iv vB, iv vC, iv oo, uv, uv, uv, uv, uv, uv, uv, uv, uv, uv, uv, uv, uv, uv]) rfl) ?_
  refine og (fun _ => XS.iload X467.here hx rfl (hb hby at_112) rfl) ?_
  refine og (fun _ => XS.iconst X467.here hx rfl (hb hby at_114)) ?_
  refine og (fun _ => XS.iushr X467.here hx rfl (hb hby at_115) rfl) ?_
  refine og (fun _ => XS.iconst X467.here hx rfl (hb hby at_116)) ?_
  refine og (fun _ => XS.iand X467.here hx rfl (hb hby at_117) rfl) ?_
  show OGets p e below _ (T467.setTop (mkF m 118 #[jv p0, sv, jv p1, sv, jv p2, sv, jv p3, sv, iv p4, iv p5, iv lA, iv hA, iv lB, iv hB, iv lC, iv hC, iv vA, iv vB, iv vC, iv oo, uv, uv, uv, uv, uv, uv, uv, uv, uv, uv, uv, uv, uv, uv] [(.int (((p5.toUInt32 >>> ((2 : Int32) &&& 31).toUInt32).toInt32) &&& (3 : Int32)))]))
  have htt := own_at ((p5.toUInt32 >>> ((2 : Int32) &&& 31).toUInt32).toInt32)
  generalize (((p5.toUInt32 >>> ((2 : Int32) &&& 31).toUInt32).toInt32) &&& (3 : Int32)) = tt at htt ⊢
  show OGets p e below _ (T467.setTop (mkF m 118 #[jv p0, sv, jv p1, sv, jv p2, sv, jv p3, sv, iv p4, iv p5, iv lA, iv hA, iv lB, iv hB, iv lC, iv hC, iv vA, iv vB, iv vC, iv oo, uv, uv, uv, uv, uv, uv, uv, uv, uv, uv, uv, uv, uv, uv] [(.int tt)]))
  refine og (fun _ => XS.istore X467.here hx rfl (hb hby at_118) rfl (l' := #[jv p0, sv, jv p1, sv, jv p2, sv, jv p3, sv, iv p4, iv p5, iv lA, iv hA, iv lB, iv hB, iv lC, iv hC, iv vA, iv vB, iv vC, iv oo, iv tt, uv, uv, uv, uv, uv, uv, uv, uv, uv, uv, uv, uv, uv]) rfl) ?_
  refine og (fun _ => XS.iload X467.here hx rfl (hb hby at_120) rfl) ?_
  refine og (fun _ => XS.iconst X467.here hx rfl (hb hby at_122)) ?_
  refine og (fun _ => XS.iushr X467.here hx rfl (hb hby at_123) rfl) ?_
  refine og (fun _ => XS.iconst X467.here hx rfl (hb hby at_124)) ?_
  refine og (fun _ => iremM (g := (mkF m 125 #[jv p0, sv, jv p1, sv, jv p2, sv, jv p3, sv, iv p4, iv p5, iv lA, iv hA, iv lB, iv hB, iv lC, iv hC, iv vA, iv vB, iv vC, iv oo, iv tt, uv, uv, uv, uv, uv, uv, uv, uv, uv, uv, uv, uv, uv] [(.int 3), (.int ((p5.toUInt32 >>> ((4 : Int32) &&& 31).toUInt32).toInt32))])) X467 hx rfl (hb hby at_125) rfl (by decide)) ?_
  show OGets p e below _ (T467.setTop (mkF m 126 #[jv p0, sv, jv p1, sv, jv p2, sv, jv p3, sv, iv p4, iv p5, iv lA, iv hA, iv lB, iv hB, iv lC, iv hC, iv vA, iv vB, iv vC, iv oo, iv tt, uv, uv, uv, uv, uv, uv, uv, uv, uv, uv, uv, uv, uv] [(.int (((p5.toUInt32 >>> ((4 : Int32) &&& 31).toUInt32).toInt32) % (3 : Int32)))]))
  have hrr := own_rot p5
  generalize (((p5.toUInt32 >>> ((4 : Int32) &&& 31).toUInt32).toInt32) % (3 : Int32)) = iA at hrr ⊢
  show OGets p e below _ (T467.setTop (mkF m 126 #[jv p0, sv, jv p1, sv, jv p2, sv, jv p3, sv, iv p4, iv p5, iv lA, iv hA, iv lB, iv hB, iv lC, iv hC, iv vA, iv vB, iv vC, iv oo, iv tt, uv, uv, uv, uv, uv, uv, uv, uv, uv, uv, uv, uv, uv] [(.int iA)]))
  refine og (fun _ => XS.istore X467.here hx rfl (hb hby at_126) rfl (l' := #[jv p0, sv, jv p1, sv, jv p2, sv, jv p3, sv, iv p4, iv p5, iv lA, iv hA, iv lB, iv hB, iv lC, iv hC, iv vA, iv vB, iv vC, iv oo, iv tt, iv iA, uv, uv, uv, uv, uv, uv, uv, uv, uv, uv, uv, uv]) rfl) ?_
  refine og (fun _ => XS.iload X467.here hx rfl (hb hby at_128) rfl) ?_
  refine og (fun _ => XS.istore X467.here hx rfl (hb hby at_130) rfl (l' := #[jv p0, sv, jv p1, sv, jv p2, sv, jv p3, sv, iv p4, iv p5, iv lA, iv hA, iv lB, iv hB, iv lC, iv hC, iv vA, iv vB, iv vC, iv oo, iv tt, iv iA, iv iA, uv, uv, uv, uv, uv, uv, uv, uv, uv, uv, uv]) rfl) ?_
  refine og (fun _ => XS.iload X467.here hx rfl (hb hby at_132) rfl) ?_
  refine og (fun _ => XS.iconst X467.here hx rfl (hb hby at_134)) ?_
  refine og (fun _ => XS.iadd X467.here hx rfl (hb hby at_135) rfl) ?_
  show OGets p e below _ (T467.setTop (mkF m 136 #[jv p0, sv, jv p1, sv, jv p2, sv, jv p3, sv, iv p4, iv p5, iv lA, iv hA, iv lB, iv hB, iv lC, iv hC, iv vA, iv vB, iv vC, iv oo, iv tt, iv iA, iv iA, uv, uv, uv, uv, uv, uv, uv, uv, uv, uv, uv] [(.int (iA + (1 : Int32)))]))
  refine og (fun _ => XS.iconst X467.here hx rfl (hb hby at_136)) ?_
  refine og (fun _ => iremM (g := (mkF m 137 #[jv p0, sv, jv p1, sv, jv p2, sv, jv p3, sv, iv p4, iv p5, iv lA, iv hA, iv lB, iv hB, iv lC, iv hC, iv vA, iv vB, iv vC, iv oo, iv tt, iv iA, iv iA, uv, uv, uv, uv, uv, uv, uv, uv, uv, uv, uv] [(.int 3), (.int (iA + (1 : Int32)))])) X467 hx rfl (hb hby at_137) rfl (by decide)) ?_
  show OGets p e below _ (T467.setTop (mkF m 138 #[jv p0, sv, jv p1, sv, jv p2, sv, jv p3, sv, iv p4, iv p5, iv lA, iv hA, iv lB, iv hB, iv lC, iv hC, iv vA, iv vB, iv vC, iv oo, iv tt, iv iA, iv iA, uv, uv, uv, uv, uv, uv, uv, uv, uv, uv, uv] [(.int ((iA + (1 : Int32)) % (3 : Int32)))]))
  generalize eB : ((iA + (1 : Int32)) % (3 : Int32)) = iB
  show OGets p e below _ (T467.setTop (mkF m 138 #[jv p0, sv, jv p1, sv, jv p2, sv, jv p3, sv, iv p4, iv p5, iv lA, iv hA, iv lB, iv hB, iv lC, iv hC, iv vA, iv vB, iv vC, iv oo, iv tt, iv iA, iv iA, uv, uv, uv, uv, uv, uv, uv, uv, uv, uv, uv] [(.int iB)]))
  refine og (fun _ => XS.istore X467.here hx rfl (hb hby at_138) rfl (l' := #[jv p0, sv, jv p1, sv, jv p2, sv, jv p3, sv, iv p4, iv p5, iv lA, iv hA, iv lB, iv hB, iv lC, iv hC, iv vA, iv vB, iv vC, iv oo, iv tt, iv iA, iv iA, iv iB, uv, uv, uv, uv, uv, uv, uv, uv, uv, uv]) rfl) ?_
  refine og (fun _ => XS.iload X467.here hx rfl (hb hby at_140) rfl) ?_
  refine og (fun _ => XS.iconst X467.here hx rfl (hb hby at_142)) ?_
  refine og (fun _ => XS.iadd X467.here hx rfl (hb hby at_143) rfl) ?_
  refine og (fun _ => XS.iconst X467.here hx rfl (hb hby at_144)) ?_
  refine og (fun _ => iremM (g := (mkF m 145 #[jv p0, sv, jv p1, sv, jv p2, sv, jv p3, sv, iv p4, iv p5, iv lA, iv hA, iv lB, iv hB, iv lC, iv hC, iv vA, iv vB, iv vC, iv oo, iv tt, iv iA, iv iA, iv iB, uv, uv, uv, uv, uv, uv, uv, uv, uv, uv] [(.int 3), (.int (iA + (2 : Int32)))])) X467 hx rfl (hb hby at_145) rfl (by decide)) ?_
  show OGets p e below _ (T467.setTop (mkF m 146 #[jv p0, sv, jv p1, sv, jv p2, sv, jv p3, sv, iv p4, iv p5, iv lA, iv hA, iv lB, iv hB, iv lC, iv hC, iv vA, iv vB, iv vC, iv oo, iv tt, iv iA, iv iA, iv iB, uv, uv, uv, uv, uv, uv, uv, uv, uv, uv] [(.int ((iA + (2 : Int32)) % (3 : Int32)))]))
  generalize eC : ((iA + (2 : Int32)) % (3 : Int32)) = iC
  have RR := own_rotI hrr eB.symm eC.symm
  have Q3 := own_in3 RR
  have Q7 := own_in7 RR htt
  have Q4 := own_in4 hoo
  show OGets p e below _ (T467.setTop (mkF m 146 #[jv p0, sv, jv p1, sv, jv p2, sv, jv p3, sv, iv p4, iv p5, iv lA, iv hA, iv lB, iv hB, iv lC, iv hC, iv vA, iv vB, iv vC, iv oo, iv tt, iv iA, iv iA, iv iB, uv, uv, uv, uv, uv, uv, uv, uv, uv, uv] [(.int iC)]))
  refine og (fun _ => XS.istore X467.here hx rfl (hb hby at_146) rfl (l' := #[jv p0, sv, jv p1, sv, jv p2, sv, jv p3, sv, iv p4, iv p5, iv lA, iv hA, iv lB, iv hB, iv lC, iv hC, iv vA, iv vB, iv vC, iv oo, iv tt, iv iA, iv iA, iv iB, iv iC, uv, uv, uv, uv, uv, uv, uv, uv, uv]) rfl) ?_
  obtain ⟨T468, h468, X468, e468, E468, A468, D468, -, st468⟩ := newO X467 hx hZ hown (ow hw 9 rfl) (ow hw 10 rfl) (ow hw 11 rfl) e467 (g := (mkF m 148 #[jv p0, sv, jv p1, sv, jv p2, sv, jv p3, sv, iv p4, iv p5, iv lA, iv hA, iv lB, iv hB, iv lC, iv hC, iv vA, iv vB, iv vC, iv oo, iv tt, iv iA, iv iA, iv iB, iv iC, uv, uv, uv, uv, uv, uv, uv, uv, uv] [])) rfl (hb hby at_148) (by decide) (by decide)
  have V468' := V0.newObj (ns := ns_ArrayList) (vs := [(.int 0), .null, (.int 0)]) Z0 E468 A468 D468 (lay_ns_ArrayList hw) (by decide) (by decide)
  have Z468 : n0 ≤ h468.size := Nat.le_trans Z0 E468.1
  obtain ⟨b468, g468⟩ : ∃ z, z = h0.size := ⟨_, rfl⟩
  rw [← g468] at V468' st468
  have V468 : OView Z n0 h468 (oL b468 [(.int 0), .null, (.int 0)] :: []) := V468'
  have O468 := O0.ext E468
  refine og st468 ?_
  refine og (fun _ => XS.dup X468.here hx rfl (hb hby at_151) rfl rfl) ?_
  obtain ⟨_, _, ⟨T469, L469, k469, n469⟩, -, X469, ⟨Lc469, hQ469, l469, y469, z469⟩, st469⟩ := X468.specialBack hx (y := (⟨"java/util/ArrayList", "<init>", "()V"⟩ : MethodName)) rfl hown (mvT hZ (ow hw 12 rfl)) (mvT hZ (ow hw 13 rfl)) (mvT hZ (ow hw 14 rfl)) (by decide) (backOf (W := 1) (rm_ain l Z a0 hw [] b468 dS h468 n0 _ Z468 S0 V468 O468) hZ (ow hw 14 rfl) (ow hw 11 rfl) (by decide) (by decide)) (g := (mkF m 152 #[jv p0, sv, jv p1, sv, jv p2, sv, jv p3, sv, iv p4, iv p5, iv lA, iv hA, iv lB, iv hB, iv lC, iv hC, iv vA, iv vB, iv vC, iv oo, iv tt, iv iA, iv iA, iv iB, iv iC, uv, uv, uv, uv, uv, uv, uv, uv, uv] [(.ref b468), (.ref b468)])) rfl (by rw [hml]; rfl) (Steps.refl _) (a := b468) (argsL := []) (rest := [(.ref b468)]) (lenOf pd_7 rfl) rfl (by show 2 * 0 + _ ≤ _; exact Nat.le_of_eq rfl) (hb hby at_152) (fun _ _ => ⟨rfl, e468, nb rfl, nb rfl⟩)
  dsimp only [Pt.U, Pt.locs, Pt.cells, Pt.slots] at X469 l469 y469 z469 st469 hQ469
  rw [l469, y469, z469] at X469
  obtain ⟨rfl, N469q, V469, O469q⟩ := hQ469
  have N469 := Fr.app N467 N469q
  have V469v : OView Z n0 T469.heap (oL b468 [(.int 0), (.ref dS), (.int 0)] :: []) := V469
  have Z469 : n0 ≤ T469.heap.size := V469v.big 0 rfl
  refine OGets.after st469 ?_
  refine og (fun _ => XS.astore X469.here hx rfl (hb hby at_155) rfl rfl (l' := #[jv p0, sv, jv p1, sv, jv p2, sv, jv p3, sv, iv p4, iv p5, iv lA, iv hA, iv lB, iv hB, iv lC, iv hC, iv vA, iv vB, iv vC, iv oo, iv tt, iv iA, iv iA, iv iB, iv iC, rv b468, uv, uv, uv, uv, uv, uv, uv, uv]) rfl) ?_
  refine og (fun _ => XS.aload X469.here hx rfl (hb hby at_157) rfl rfl) ?_
  obtain ⟨T470, h470, X470, e470, E470, A470, D470, -, st470⟩ := newO X469 hx hZ hown (ow hw 35 rfl) (ow hw 36 rfl) (ow hw 37 rfl) rfl (g := (mkF m 159 #[jv p0, sv, jv p1, sv, jv p2, sv, jv p3, sv, iv p4, iv p5, iv lA, iv hA, iv lB, iv hB, iv lC, iv hC, iv vA, iv vB, iv vC, iv oo, iv tt, iv iA, iv iA, iv iB, iv iC, rv b468, uv, uv, uv, uv, uv, uv, uv, uv] [(.ref b468)])) rfl (hb hby at_159) (by decide) (by decide)
  have V470' := V469v.newObj (ns := ns_Variable) (vs := [.null, .null, .null, (.int 0), .null]) Z469 E470 A470 D470 (lay_ns_Variable hw) (by decide) (by decide)
  have Z470 : n0 ≤ h470.size := Nat.le_trans Z469 E470.1
  obtain ⟨b470, g470⟩ : ∃ z, z = T469.heap.size := ⟨_, rfl⟩
  rw [← g470] at V470' st470
  have V470 : OView Z n0 h470 (oV b470 [.null, .null, .null, (.int 0), .null] :: oL b468 [(.int 0), (.ref dS), (.int 0)] :: []) := V470'
  have O470 := O469q.ext E470
  refine og st470 ?_
  refine og (fun _ => XS.dup X470.here hx rfl (hb hby at_162) rfl rfl) ?_
  refine og (fun _ => XS.aconstNull X470.here hx rfl (hb hby at_163)) ?_
  refine og (fun _ => XS.aconstNull X470.here hx rfl (hb hby at_164)) ?_
  refine og (fun _ => XS.iload X470.here hx rfl (hb hby at_165) rfl) ?_
  refine og (fun _ => XS.iload X470.here hx rfl (hb hby at_167) rfl) ?_
  show OGets p e below _ (T470.setTop (mkF m 169 #[jv p0, sv, jv p1, sv, jv p2, sv, jv p3, sv, iv p4, iv p5, iv lA, iv hA, iv lB, iv hB, iv lC, iv hC, iv vA, iv vB, iv vC, iv oo, iv tt, iv iA, iv iA, iv iB, iv iC, rv b468, uv, uv, uv, uv, uv, uv, uv, uv] [(.int hA), (.int lA), .null, .null, (.ref b470), (.ref b470), (.ref b468)]))
  obtain ⟨_, _, ⟨T471, L471, k471, n471⟩, -, X471, ⟨Lc471, hQ471, l471, y471, z471⟩, st471⟩ := Jvm.LawKit.callS X470 hx (y := (⟨"com/example/inya/inya/Domain", "range", "(II)Lcom/example/inya/inya/Domain;"⟩ : MethodName)) hown (mvT hZ (ow hw 38 rfl)) (mvT hZ (ow hw 39 rfl)) (mvT hZ (ow hw 40 rfl)) (mvT hZ (ow hw 41 rfl)) (by decide) (backOf (W := 5) (rm_dra l Z a0 hw [] lA hA h470 n0 _ Z470 nA V470 O470) hZ (ow hw 41 rfl) (ow hw 40 rfl) (by decide) (by decide)) (g := (mkF m 169 #[jv p0, sv, jv p1, sv, jv p2, sv, jv p3, sv, iv p4, iv p5, iv lA, iv hA, iv lB, iv hB, iv lC, iv hC, iv vA, iv vB, iv vC, iv oo, iv tt, iv iA, iv iA, iv iB, iv iC, rv b468, uv, uv, uv, uv, uv, uv, uv, uv] [(.int hA), (.int lA), .null, .null, (.ref b470), (.ref b470), (.ref b468)])) rfl (by rw [hml]; rfl) (argsL := [(.int lA), (.int hA)]) (rest := [.null, .null, (.ref b470), (.ref b470), (.ref b468)]) (lenOf pd_29 rfl) rfl (by show 2 * 0 + _ ≤ _; exact Nat.le_of_eq rfl) (hb hby at_169) (fun _ _ => ⟨rfl, e470, nb rfl, nb rfl⟩)
  dsimp only [Pt.U, Pt.locs, Pt.cells, Pt.slots] at X471 l471 y471 z471 st471 hQ471
  rw [l471, y471, z471] at X471
  obtain ⟨d471, rfl, N471q, V471, O471q⟩ := hQ471
  have N471 := Fr.app N469 N471q
  have V471v : OView Z n0 T471.heap (oD d471 [(.int 0), (.int lA), (.int hA)] :: oV b470 [.null, .null, .null, (.int 0), .null] :: oL b468 [(.int 0), (.ref dS), (.int 0)] :: []) := V471
  have Z471 : n0 ≤ T471.heap.size := V471v.big 0 rfl
  refine og st471 ?_
  refine og (fun _ => XS.iload X471.here hx rfl (hb hby at_172) rfl) ?_
  refine og (fun _ => XS.aconstNull X471.here hx rfl (hb hby at_174)) ?_
  have V472_ : OView Z _ T471.heap (oV b470 [.null, .null, .null, (.int 0), .null] :: oD d471 [(.int 0), (.int lA), (.int hA)] :: oL b468 [(.int 0), (.ref dS), (.int 0)] :: []) := (V471v.bring 1 rfl)
  obtain ⟨_, _, ⟨T472, L472, k472, n472⟩, -, X472, ⟨Lc472, hQ472, l472, y472, z472⟩, st472⟩ := X471.specialBack hx (y := (⟨"com/example/inya/inya/Variable", "<init>", "(Ljava/lang/String;Lcom/example/inya/inya/Role;Lcom/example/inya/inya/Domain;ILcom/example/inya/inya/Position;)V"⟩ : MethodName)) rfl hown (mvT hZ (ow hw 54 rfl)) (mvT hZ (ow hw 55 rfl)) (mvT hZ (ow hw 56 rfl)) (by decide) (backOf (W := 2) (rm_vin l Z a0 hw [] b470 d471 iA T471.heap n0 _ Z471  V472_ O471q) hZ (ow hw 56 rfl) (ow hw 37 rfl) (by decide) (by decide)) (g := (mkF m 175 #[jv p0, sv, jv p1, sv, jv p2, sv, jv p3, sv, iv p4, iv p5, iv lA, iv hA, iv lB, iv hB, iv lC, iv hC, iv vA, iv vB, iv vC, iv oo, iv tt, iv iA, iv iA, iv iB, iv iC, rv b468, uv, uv, uv, uv, uv, uv, uv, uv] [.null, (.int iA), (.ref d471), .null, .null, (.ref b470), (.ref b470), (.ref b468)])) rfl (by rw [hml]; rfl) (Steps.refl _) (a := b470) (argsL := [.null, .null, (.ref d471), (.int iA), .null]) (rest := [(.ref b470), (.ref b468)]) (lenOf pd_30 rfl) rfl (by show 2 * 0 + _ ≤ _; exact Nat.le_of_eq rfl) (hb hby at_175) (fun _ _ => ⟨rfl, rfl, nb rfl, nb rfl⟩)
  dsimp only [Pt.U, Pt.locs, Pt.cells, Pt.slots] at X472 l472 y472 z472 st472 hQ472
  rw [l472, y472, z472] at X472
  obtain ⟨rfl, N472q, V472, O472q⟩ := hQ472
  have N472 := Fr.app N471 N472q
  have V472v : OView Z n0 T472.heap (oV b470 [.null, .null, (.ref d471), (.int iA), .null] :: oD d471 [(.int 0), (.int lA), (.int hA)] :: oL b468 [(.int 0), (.ref dS), (.int 0)] :: []) := V472
  have Z472 : n0 ≤ T472.heap.size := V472v.big 0 rfl
  refine OGets.after st472 ?_
  have V473_ : OView Z _ T472.heap (oL b468 [(.int 0), (.ref dS), (.int 0)] :: oV b470 [.null, .null, (.ref d471), (.int iA), .null] :: oD d471 [(.int 0), (.int lA), (.int hA)] :: []) := (V472v.bring 2 rfl)
  obtain ⟨cq473, kq473, q473a, q473b, q473c⟩ := isOf hZ rfl (V473_.exa 0 rfl)
  obtain ⟨_, _, ⟨T473, L473, k473, n473⟩, -, X473, ⟨Lc473, hQ473, l473, y473, z473⟩, st473⟩ := X472.virtualBack hx (y := (⟨"java/util/ArrayList", "add", "(Ljava/lang/Object;)Z"⟩ : MethodName)) (z := (⟨"java/util/ArrayList", "add", "(Ljava/lang/Object;)Z"⟩ : MethodName)) hown (mvT hZ (ow hw 73 rfl)) (mvT hZ (ow hw 74 rfl)) (notFace_of_selects (args := #[]) (mvT hZ (ow hw 76 rfl))) (mvT hZ (ow hw 76 rfl)) (mvT hZ (ow hw 75 rfl)) (by decide) (backOf (W := 0) (rm_add0 l Z a0 hw [] b468 b470 d471 dS clS iA T472.heap n0 _ Z472 S0 A00 hzS V473_ O472q) hZ (ow hw 77 rfl) (ow hw 11 rfl) (by decide) (by decide)) q473a q473c (g := (mkF m 178 #[jv p0, sv, jv p1, sv, jv p2, sv, jv p3, sv, iv p4, iv p5, iv lA, iv hA, iv lB, iv hB, iv lC, iv hC, iv vA, iv vB, iv vC, iv oo, iv tt, iv iA, iv iA, iv iB, iv iC, rv b468, uv, uv, uv, uv, uv, uv, uv, uv] [(.ref b470), (.ref b468)])) rfl (by rw [hml]; rfl) (Steps.refl _) (argsL := [(.ref b470)]) (rest := []) (lenOf pd_31 rfl) rfl (by show 2 * 0 + _ ≤ _; exact Nat.le_of_eq rfl) (hb hby at_178) (fun _ _ => ⟨rfl, rfl, nb rfl, nb rfl⟩)
  dsimp only [Pt.U, Pt.locs, Pt.cells, Pt.slots] at X473 l473 y473 z473 st473 hQ473
  rw [l473, y473, z473] at X473
  obtain ⟨rfl, N473q, b473, V473, O473q⟩ := hQ473
  have N473 := Fr.app N472 N473q
  have V473v : OView Z n0 T473.heap (oL b468 [(.int 1), (.ref b473), (.int 1)] :: oO1 b473 b470 :: oV b470 [.null, .null, (.ref d471), (.int iA), .null] :: oD d471 [(.int 0), (.int lA), (.int hA)] :: []) := V473
  have Z473 : n0 ≤ T473.heap.size := V473v.big 0 rfl
  refine OGets.after st473 ?_
  refine og (fun _ => XS.pop X473.here hx rfl (hb hby at_181) rfl rfl) ?_
  refine og (fun _ => XS.aload X473.here hx rfl (hb hby at_182) rfl rfl) ?_
  obtain ⟨T474, h474, X474, e474, E474, A474, D474, -, st474⟩ := newO X473 hx hZ hown (ow hw 35 rfl) (ow hw 36 rfl) (ow hw 37 rfl) rfl (g := (mkF m 184 #[jv p0, sv, jv p1, sv, jv p2, sv, jv p3, sv, iv p4, iv p5, iv lA, iv hA, iv lB, iv hB, iv lC, iv hC, iv vA, iv vB, iv vC, iv oo, iv tt, iv iA, iv iA, iv iB, iv iC, rv b468, uv, uv, uv, uv, uv, uv, uv, uv] [(.ref b468)])) rfl (hb hby at_184) (by decide) (by decide)
  have V474' := V473v.newObj (ns := ns_Variable) (vs := [.null, .null, .null, (.int 0), .null]) Z473 E474 A474 D474 (lay_ns_Variable hw) (by decide) (by decide)
  have Z474 : n0 ≤ h474.size := Nat.le_trans Z473 E474.1
  obtain ⟨b474, g474⟩ : ∃ z, z = T473.heap.size := ⟨_, rfl⟩
  rw [← g474] at V474' st474
  have V474 : OView Z n0 h474 (oV b474 [.null, .null, .null, (.int 0), .null] :: oL b468 [(.int 1), (.ref b473), (.int 1)] :: oO1 b473 b470 :: oV b470 [.null, .null, (.ref d471), (.int iA), .null] :: oD d471 [(.int 0), (.int lA), (.int hA)] :: []) := V474'
  have O474 := O473q.ext E474
  refine og st474 ?_
  refine og (fun _ => XS.dup X474.here hx rfl (hb hby at_187) rfl rfl) ?_
  refine og (fun _ => XS.aconstNull X474.here hx rfl (hb hby at_188)) ?_
  refine og (fun _ => XS.aconstNull X474.here hx rfl (hb hby at_189)) ?_
  refine og (fun _ => XS.iload X474.here hx rfl (hb hby at_190) rfl) ?_
  refine og (fun _ => XS.iload X474.here hx rfl (hb hby at_192) rfl) ?_
  show OGets p e below _ (T474.setTop (mkF m 194 #[jv p0, sv, jv p1, sv, jv p2, sv, jv p3, sv, iv p4, iv p5, iv lA, iv hA, iv lB, iv hB, iv lC, iv hC, iv vA, iv vB, iv vC, iv oo, iv tt, iv iA, iv iA, iv iB, iv iC, rv b468, uv, uv, uv, uv, uv, uv, uv, uv] [(.int hB), (.int lB), .null, .null, (.ref b474), (.ref b474), (.ref b468)]))
  obtain ⟨_, _, ⟨T475, L475, k475, n475⟩, -, X475, ⟨Lc475, hQ475, l475, y475, z475⟩, st475⟩ := Jvm.LawKit.callS X474 hx (y := (⟨"com/example/inya/inya/Domain", "range", "(II)Lcom/example/inya/inya/Domain;"⟩ : MethodName)) hown (mvT hZ (ow hw 38 rfl)) (mvT hZ (ow hw 39 rfl)) (mvT hZ (ow hw 40 rfl)) (mvT hZ (ow hw 41 rfl)) (by decide) (backOf (W := 5) (rm_dra l Z a0 hw [] lB hB h474 n0 _ Z474 nB V474 O474) hZ (ow hw 41 rfl) (ow hw 40 rfl) (by decide) (by decide)) (g := (mkF m 194 #[jv p0, sv, jv p1, sv, jv p2, sv, jv p3, sv, iv p4, iv p5, iv lA, iv hA, iv lB, iv hB, iv lC, iv hC, iv vA, iv vB, iv vC, iv oo, iv tt, iv iA, iv iA, iv iB, iv iC, rv b468, uv, uv, uv, uv, uv, uv, uv, uv] [(.int hB), (.int lB), .null, .null, (.ref b474), (.ref b474), (.ref b468)])) rfl (by rw [hml]; rfl) (argsL := [(.int lB), (.int hB)]) (rest := [.null, .null, (.ref b474), (.ref b474), (.ref b468)]) (lenOf pd_29 rfl) rfl (by show 2 * 0 + _ ≤ _; exact Nat.le_of_eq rfl) (hb hby at_194) (fun _ _ => ⟨rfl, e474, nb rfl, nb rfl⟩)
  dsimp only [Pt.U, Pt.locs, Pt.cells, Pt.slots] at X475 l475 y475 z475 st475 hQ475
  rw [l475, y475, z475] at X475
  obtain ⟨d475, rfl, N475q, V475, O475q⟩ := hQ475
  have N475 := Fr.app N473 N475q
  have V475v : OView Z n0 T475.heap (oD d475 [(.int 0), (.int lB), (.int hB)] :: oV b474 [.null, .null, .null, (.int 0), .null] :: oL b468 [(.int 1), (.ref b473), (.int 1)] :: oO1 b473 b470 :: oV b470 [.null, .null, (.ref d471), (.int iA), .null] :: oD d471 [(.int 0), (.int lA), (.int hA)] :: []) := V475
  have Z475 : n0 ≤ T475.heap.size := V475v.big 0 rfl
  refine og st475 ?_
  refine og (fun _ => XS.iload X475.here hx rfl (hb hby at_197) rfl) ?_
  refine og (fun _ => XS.aconstNull X475.here hx rfl (hb hby at_199)) ?_
  have V476_ : OView Z _ T475.heap (oV b474 [.null, .null, .null, (.int 0), .null] :: oD d475 [(.int 0), (.int lB), (.int hB)] :: oL b468 [(.int 1), (.ref b473), (.int 1)] :: oO1 b473 b470 :: oV b470 [.null, .null, (.ref d471), (.int iA), .null] :: oD d471 [(.int 0), (.int lA), (.int hA)] :: []) := (V475v.bring 1 rfl)
  obtain ⟨_, _, ⟨T476, L476, k476, n476⟩, -, X476, ⟨Lc476, hQ476, l476, y476, z476⟩, st476⟩ := X475.specialBack hx (y := (⟨"com/example/inya/inya/Variable", "<init>", "(Ljava/lang/String;Lcom/example/inya/inya/Role;Lcom/example/inya/inya/Domain;ILcom/example/inya/inya/Position;)V"⟩ : MethodName)) rfl hown (mvT hZ (ow hw 54 rfl)) (mvT hZ (ow hw 55 rfl)) (mvT hZ (ow hw 56 rfl)) (by decide) (backOf (W := 2) (rm_vin l Z a0 hw [] b474 d475 iB T475.heap n0 _ Z475  V476_ O475q) hZ (ow hw 56 rfl) (ow hw 37 rfl) (by decide) (by decide)) (g := (mkF m 200 #[jv p0, sv, jv p1, sv, jv p2, sv, jv p3, sv, iv p4, iv p5, iv lA, iv hA, iv lB, iv hB, iv lC, iv hC, iv vA, iv vB, iv vC, iv oo, iv tt, iv iA, iv iA, iv iB, iv iC, rv b468, uv, uv, uv, uv, uv, uv, uv, uv] [.null, (.int iB), (.ref d475), .null, .null, (.ref b474), (.ref b474), (.ref b468)])) rfl (by rw [hml]; rfl) (Steps.refl _) (a := b474) (argsL := [.null, .null, (.ref d475), (.int iB), .null]) (rest := [(.ref b474), (.ref b468)]) (lenOf pd_30 rfl) rfl (by show 2 * 0 + _ ≤ _; exact Nat.le_of_eq rfl) (hb hby at_200) (fun _ _ => ⟨rfl, rfl, nb rfl, nb rfl⟩)
  dsimp only [Pt.U, Pt.locs, Pt.cells, Pt.slots] at X476 l476 y476 z476 st476 hQ476
  rw [l476, y476, z476] at X476
  obtain ⟨rfl, N476q, V476, O476q⟩ := hQ476
  have N476 := Fr.app N475 N476q
  have V476v : OView Z n0 T476.heap (oV b474 [.null, .null, (.ref d475), (.int iB), .null] :: oD d475 [(.int 0), (.int lB), (.int hB)] :: oL b468 [(.int 1), (.ref b473), (.int 1)] :: oO1 b473 b470 :: oV b470 [.null, .null, (.ref d471), (.int iA), .null] :: oD d471 [(.int 0), (.int lA), (.int hA)] :: []) := V476
  have Z476 : n0 ≤ T476.heap.size := V476v.big 0 rfl
  refine OGets.after st476 ?_
  have V477_ : OView Z _ T476.heap (oL b468 [(.int 1), (.ref b473), (.int 1)] :: oO1 b473 b470 :: oV b474 [.null, .null, (.ref d475), (.int iB), .null] :: oD d475 [(.int 0), (.int lB), (.int hB)] :: oV b470 [.null, .null, (.ref d471), (.int iA), .null] :: oD d471 [(.int 0), (.int lA), (.int hA)] :: []) := ((V476v.bring 3 rfl).bring 3 rfl)
  obtain ⟨cq477, kq477, q477a, q477b, q477c⟩ := isOf hZ rfl (V477_.exa 0 rfl)
  obtain ⟨_, _, ⟨T477, L477, k477, n477⟩, -, X477, ⟨Lc477, hQ477, l477, y477, z477⟩, st477⟩ := X476.virtualBack hx (y := (⟨"java/util/ArrayList", "add", "(Ljava/lang/Object;)Z"⟩ : MethodName)) (z := (⟨"java/util/ArrayList", "add", "(Ljava/lang/Object;)Z"⟩ : MethodName)) hown (mvT hZ (ow hw 73 rfl)) (mvT hZ (ow hw 74 rfl)) (notFace_of_selects (args := #[]) (mvT hZ (ow hw 76 rfl))) (mvT hZ (ow hw 76 rfl)) (mvT hZ (ow hw 75 rfl)) (by decide) (backOf (W := 0) (rm_add1 l Z a0 hw [] b468 b474 d475 b473 b470 iB T476.heap n0 _ Z476  V477_ O476q) hZ (ow hw 77 rfl) (ow hw 11 rfl) (by decide) (by decide)) q477a q477c (g := (mkF m 203 #[jv p0, sv, jv p1, sv, jv p2, sv, jv p3, sv, iv p4, iv p5, iv lA, iv hA, iv lB, iv hB, iv lC, iv hC, iv vA, iv vB, iv vC, iv oo, iv tt, iv iA, iv iA, iv iB, iv iC, rv b468, uv, uv, uv, uv, uv, uv, uv, uv] [(.ref b474), (.ref b468)])) rfl (by rw [hml]; rfl) (Steps.refl _) (argsL := [(.ref b474)]) (rest := []) (lenOf pd_31 rfl) rfl (by show 2 * 0 + _ ≤ _; exact Nat.le_of_eq rfl) (hb hby at_203) (fun _ _ => ⟨rfl, rfl, nb rfl, nb rfl⟩)
  dsimp only [Pt.U, Pt.locs, Pt.cells, Pt.slots] at X477 l477 y477 z477 st477 hQ477
  rw [l477, y477, z477] at X477
  obtain ⟨rfl, N477q, V477, O477q⟩ := hQ477
  have N477 := Fr.app N476 N477q
  have V477v : OView Z n0 T477.heap (oL b468 [(.int 2), (.ref b473), (.int 2)] :: oO2 b473 b470 b474 :: oV b474 [.null, .null, (.ref d475), (.int iB), .null] :: oD d475 [(.int 0), (.int lB), (.int hB)] :: oV b470 [.null, .null, (.ref d471), (.int iA), .null] :: oD d471 [(.int 0), (.int lA), (.int hA)] :: []) := V477
  have Z477 : n0 ≤ T477.heap.size := V477v.big 0 rfl
  refine OGets.after st477 ?_
  refine og (fun _ => XS.pop X477.here hx rfl (hb hby at_206) rfl rfl) ?_
  refine og (fun _ => XS.aload X477.here hx rfl (hb hby at_207) rfl rfl) ?_
  obtain ⟨T478, h478, X478, e478, E478, A478, D478, -, st478⟩ := newO X477 hx hZ hown (ow hw 35 rfl) (ow hw 36 rfl) (ow hw 37 rfl) rfl (g := (mkF m 209 #[jv p0, sv, jv p1, sv, jv p2, sv, jv p3, sv, iv p4, iv p5, iv lA, iv hA, iv lB, iv hB, iv lC, iv hC, iv vA, iv vB, iv vC, iv oo, iv tt, iv iA, iv iA, iv iB, iv iC, rv b468, uv, uv, uv, uv, uv, uv, uv, uv] [(.ref b468)])) rfl (hb hby at_209) (by decide) (by decide)
  have V478' := V477v.newObj (ns := ns_Variable) (vs := [.null, .null, .null, (.int 0), .null]) Z477 E478 A478 D478 (lay_ns_Variable hw) (by decide) (by decide)
  have Z478 : n0 ≤ h478.size := Nat.le_trans Z477 E478.1
  obtain ⟨b478, g478⟩ : ∃ z, z = T477.heap.size := ⟨_, rfl⟩
  rw [← g478] at V478' st478
  have V478 : OView Z n0 h478 (oV b478 [.null, .null, .null, (.int 0), .null] :: oL b468 [(.int 2), (.ref b473), (.int 2)] :: oO2 b473 b470 b474 :: oV b474 [.null, .null, (.ref d475), (.int iB), .null] :: oD d475 [(.int 0), (.int lB), (.int hB)] :: oV b470 [.null, .null, (.ref d471), (.int iA), .null] :: oD d471 [(.int 0), (.int lA), (.int hA)] :: []) := V478'
  have O478 := O477q.ext E478
  refine og st478 ?_
  refine og (fun _ => XS.dup X478.here hx rfl (hb hby at_212) rfl rfl) ?_
  refine og (fun _ => XS.aconstNull X478.here hx rfl (hb hby at_213)) ?_
  refine og (fun _ => XS.aconstNull X478.here hx rfl (hb hby at_214)) ?_
  refine og (fun _ => XS.iload X478.here hx rfl (hb hby at_215) rfl) ?_
  refine og (fun _ => XS.iload X478.here hx rfl (hb hby at_217) rfl) ?_
  show OGets p e below _ (T478.setTop (mkF m 219 #[jv p0, sv, jv p1, sv, jv p2, sv, jv p3, sv, iv p4, iv p5, iv lA, iv hA, iv lB, iv hB, iv lC, iv hC, iv vA, iv vB, iv vC, iv oo, iv tt, iv iA, iv iA, iv iB, iv iC, rv b468, uv, uv, uv, uv, uv, uv, uv, uv] [(.int hC), (.int lC), .null, .null, (.ref b478), (.ref b478), (.ref b468)]))
  obtain ⟨_, _, ⟨T479, L479, k479, n479⟩, -, X479, ⟨Lc479, hQ479, l479, y479, z479⟩, st479⟩ := Jvm.LawKit.callS X478 hx (y := (⟨"com/example/inya/inya/Domain", "range", "(II)Lcom/example/inya/inya/Domain;"⟩ : MethodName)) hown (mvT hZ (ow hw 38 rfl)) (mvT hZ (ow hw 39 rfl)) (mvT hZ (ow hw 40 rfl)) (mvT hZ (ow hw 41 rfl)) (by decide) (backOf (W := 5) (rm_dra l Z a0 hw [] lC hC h478 n0 _ Z478 nC V478 O478) hZ (ow hw 41 rfl) (ow hw 40 rfl) (by decide) (by decide)) (g := (mkF m 219 #[jv p0, sv, jv p1, sv, jv p2, sv, jv p3, sv, iv p4, iv p5, iv lA, iv hA, iv lB, iv hB, iv lC, iv hC, iv vA, iv vB, iv vC, iv oo, iv tt, iv iA, iv iA, iv iB, iv iC, rv b468, uv, uv, uv, uv, uv, uv, uv, uv] [(.int hC), (.int lC), .null, .null, (.ref b478), (.ref b478), (.ref b468)])) rfl (by rw [hml]; rfl) (argsL := [(.int lC), (.int hC)]) (rest := [.null, .null, (.ref b478), (.ref b478), (.ref b468)]) (lenOf pd_29 rfl) rfl (by show 2 * 0 + _ ≤ _; exact Nat.le_of_eq rfl) (hb hby at_219) (fun _ _ => ⟨rfl, e478, nb rfl, nb rfl⟩)
  dsimp only [Pt.U, Pt.locs, Pt.cells, Pt.slots] at X479 l479 y479 z479 st479 hQ479
  rw [l479, y479, z479] at X479
  obtain ⟨d479, rfl, N479q, V479, O479q⟩ := hQ479
  have N479 := Fr.app N477 N479q
  have V479v : OView Z n0 T479.heap (oD d479 [(.int 0), (.int lC), (.int hC)] :: oV b478 [.null, .null, .null, (.int 0), .null] :: oL b468 [(.int 2), (.ref b473), (.int 2)] :: oO2 b473 b470 b474 :: oV b474 [.null, .null, (.ref d475), (.int iB), .null] :: oD d475 [(.int 0), (.int lB), (.int hB)] :: oV b470 [.null, .null, (.ref d471), (.int iA), .null] :: oD d471 [(.int 0), (.int lA), (.int hA)] :: []) := V479
  have Z479 : n0 ≤ T479.heap.size := V479v.big 0 rfl
  refine og st479 ?_
  refine og (fun _ => XS.iload X479.here hx rfl (hb hby at_222) rfl) ?_
  refine og (fun _ => XS.aconstNull X479.here hx rfl (hb hby at_224)) ?_
  have V480_ : OView Z _ T479.heap (oV b478 [.null, .null, .null, (.int 0), .null] :: oD d479 [(.int 0), (.int lC), (.int hC)] :: oL b468 [(.int 2), (.ref b473), (.int 2)] :: oO2 b473 b470 b474 :: oV b474 [.null, .null, (.ref d475), (.int iB), .null] :: oD d475 [(.int 0), (.int lB), (.int hB)] :: oV b470 [.null, .null, (.ref d471), (.int iA), .null] :: oD d471 [(.int 0), (.int lA), (.int hA)] :: []) := (V479v.bring 1 rfl)
  obtain ⟨_, _, ⟨T480, L480, k480, n480⟩, -, X480, ⟨Lc480, hQ480, l480, y480, z480⟩, st480⟩ := X479.specialBack hx (y := (⟨"com/example/inya/inya/Variable", "<init>", "(Ljava/lang/String;Lcom/example/inya/inya/Role;Lcom/example/inya/inya/Domain;ILcom/example/inya/inya/Position;)V"⟩ : MethodName)) rfl hown (mvT hZ (ow hw 54 rfl)) (mvT hZ (ow hw 55 rfl)) (mvT hZ (ow hw 56 rfl)) (by decide) (backOf (W := 2) (rm_vin l Z a0 hw [] b478 d479 iC T479.heap n0 _ Z479  V480_ O479q) hZ (ow hw 56 rfl) (ow hw 37 rfl) (by decide) (by decide)) (g := (mkF m 225 #[jv p0, sv, jv p1, sv, jv p2, sv, jv p3, sv, iv p4, iv p5, iv lA, iv hA, iv lB, iv hB, iv lC, iv hC, iv vA, iv vB, iv vC, iv oo, iv tt, iv iA, iv iA, iv iB, iv iC, rv b468, uv, uv, uv, uv, uv, uv, uv, uv] [.null, (.int iC), (.ref d479), .null, .null, (.ref b478), (.ref b478), (.ref b468)])) rfl (by rw [hml]; rfl) (Steps.refl _) (a := b478) (argsL := [.null, .null, (.ref d479), (.int iC), .null]) (rest := [(.ref b478), (.ref b468)]) (lenOf pd_30 rfl) rfl (by show 2 * 0 + _ ≤ _; exact Nat.le_of_eq rfl) (hb hby at_225) (fun _ _ => ⟨rfl, rfl, nb rfl, nb rfl⟩)
  dsimp only [Pt.U, Pt.locs, Pt.cells, Pt.slots] at X480 l480 y480 z480 st480 hQ480
  rw [l480, y480, z480] at X480
  obtain ⟨rfl, N480q, V480, O480q⟩ := hQ480
  have N480 := Fr.app N479 N480q
  have V480v : OView Z n0 T480.heap (oV b478 [.null, .null, (.ref d479), (.int iC), .null] :: oD d479 [(.int 0), (.int lC), (.int hC)] :: oL b468 [(.int 2), (.ref b473), (.int 2)] :: oO2 b473 b470 b474 :: oV b474 [.null, .null, (.ref d475), (.int iB), .null] :: oD d475 [(.int 0), (.int lB), (.int hB)] :: oV b470 [.null, .null, (.ref d471), (.int iA), .null] :: oD d471 [(.int 0), (.int lA), (.int hA)] :: []) := V480
  have Z480 : n0 ≤ T480.heap.size := V480v.big 0 rfl
  refine OGets.after st480 ?_
  have V481_ : OView Z _ T480.heap (oL b468 [(.int 2), (.ref b473), (.int 2)] :: oO2 b473 b470 b474 :: oV b478 [.null, .null, (.ref d479), (.int iC), .null] :: oD d479 [(.int 0), (.int lC), (.int hC)] :: oV b474 [.null, .null, (.ref d475), (.int iB), .null] :: oD d475 [(.int 0), (.int lB), (.int hB)] :: oV b470 [.null, .null, (.ref d471), (.int iA), .null] :: oD d471 [(.int 0), (.int lA), (.int hA)] :: []) := ((V480v.bring 3 rfl).bring 3 rfl)
  obtain ⟨cq481, kq481, q481a, q481b, q481c⟩ := isOf hZ rfl (V481_.exa 0 rfl)
  obtain ⟨_, _, ⟨T481, L481, k481, n481⟩, -, X481, ⟨Lc481, hQ481, l481, y481, z481⟩, st481⟩ := X480.virtualBack hx (y := (⟨"java/util/ArrayList", "add", "(Ljava/lang/Object;)Z"⟩ : MethodName)) (z := (⟨"java/util/ArrayList", "add", "(Ljava/lang/Object;)Z"⟩ : MethodName)) hown (mvT hZ (ow hw 73 rfl)) (mvT hZ (ow hw 74 rfl)) (notFace_of_selects (args := #[]) (mvT hZ (ow hw 76 rfl))) (mvT hZ (ow hw 76 rfl)) (mvT hZ (ow hw 75 rfl)) (by decide) (backOf (W := 0) (rm_add2 l Z a0 hw [] b468 b478 d479 b473 b470 b474 iC T480.heap n0 _ Z480  V481_ O480q) hZ (ow hw 77 rfl) (ow hw 11 rfl) (by decide) (by decide)) q481a q481c (g := (mkF m 228 #[jv p0, sv, jv p1, sv, jv p2, sv, jv p3, sv, iv p4, iv p5, iv lA, iv hA, iv lB, iv hB, iv lC, iv hC, iv vA, iv vB, iv vC, iv oo, iv tt, iv iA, iv iA, iv iB, iv iC, rv b468, uv, uv, uv, uv, uv, uv, uv, uv] [(.ref b478), (.ref b468)])) rfl (by rw [hml]; rfl) (Steps.refl _) (argsL := [(.ref b478)]) (rest := []) (lenOf pd_31 rfl) rfl (by show 2 * 0 + _ ≤ _; exact Nat.le_of_eq rfl) (hb hby at_228) (fun _ _ => ⟨rfl, rfl, nb rfl, nb rfl⟩)
  dsimp only [Pt.U, Pt.locs, Pt.cells, Pt.slots] at X481 l481 y481 z481 st481 hQ481
  rw [l481, y481, z481] at X481
  obtain ⟨rfl, N481q, V481, -⟩ := hQ481
  have N481 := Fr.app N480 N481q
  have V481v : OView Z n0 T481.heap (oL b468 [(.int 3), (.ref b473), (.int 3)] :: oO3 b473 b470 b474 b478 :: oV b478 [.null, .null, (.ref d479), (.int iC), .null] :: oD d479 [(.int 0), (.int lC), (.int hC)] :: oV b474 [.null, .null, (.ref d475), (.int iB), .null] :: oD d475 [(.int 0), (.int lB), (.int hB)] :: oV b470 [.null, .null, (.ref d471), (.int iA), .null] :: oD d471 [(.int 0), (.int lA), (.int hA)] :: []) := V481
  have Z481 : n0 ≤ T481.heap.size := V481v.big 0 rfl
  refine OGets.after st481 ?_
  refine og (fun _ => XS.pop X481.here hx rfl (hb hby at_231) rfl rfl) ?_
  obtain ⟨T482, h482, X482, e482, E482, A482, D482, -, st482⟩ := newO X481 hx hZ hown (ow hw 104 rfl) (ow hw 105 rfl) (ow hw 106 rfl) rfl (g := (mkF m 232 #[jv p0, sv, jv p1, sv, jv p2, sv, jv p3, sv, iv p4, iv p5, iv lA, iv hA, iv lB, iv hB, iv lC, iv hC, iv vA, iv vB, iv vC, iv oo, iv tt, iv iA, iv iA, iv iB, iv iC, rv b468, uv, uv, uv, uv, uv, uv, uv, uv] [])) rfl (hb hby at_232) (by decide) (by decide)
  have V482' := V481v.newObj (ns := ns_StateLayout) (vs := [.null, .null, .null, .null, .null, (.int 0)]) Z481 E482 A482 D482 (lay_ns_StateLayout hw) (by decide) (by decide)
  have Z482 : n0 ≤ h482.size := Nat.le_trans Z481 E482.1
  obtain ⟨b482, g482⟩ : ∃ z, z = T481.heap.size := ⟨_, rfl⟩
  rw [← g482] at V482' st482
  have V482 : OView Z n0 h482 (oY b482 [.null, .null, .null, .null, .null, (.int 0)] :: oL b468 [(.int 3), (.ref b473), (.int 3)] :: oO3 b473 b470 b474 b478 :: oV b478 [.null, .null, (.ref d479), (.int iC), .null] :: oD d479 [(.int 0), (.int lC), (.int hC)] :: oV b474 [.null, .null, (.ref d475), (.int iB), .null] :: oD d475 [(.int 0), (.int lB), (.int hB)] :: oV b470 [.null, .null, (.ref d471), (.int iA), .null] :: oD d471 [(.int 0), (.int lA), (.int hA)] :: []) := V482'
  refine og st482 ?_
  refine og (fun _ => XS.dup X482.here hx rfl (hb hby at_235) rfl rfl) ?_
  refine og (fun _ => XS.aload X482.here hx rfl (hb hby at_236) rfl rfl) ?_
  have Qb := own_b01 nA nB
  by_cases hb2 : (64 : Int32) < ((((0 : Int32) + (bt lA hA)) + (bt lB hB)) + (bt lC hC))
  · show OGets p e below _ (T482.setTop (mkF m 238 #[jv p0, sv, jv p1, sv, jv p2, sv, jv p3, sv, iv p4, iv p5, iv lA, iv hA, iv lB, iv hB, iv lC, iv hC, iv vA, iv vB, iv vC, iv oo, iv tt, iv iA, iv iA, iv iB, iv iC, rv b468, uv, uv, uv, uv, uv, uv, uv, uv] [(.ref b468), (.ref b482), (.ref b482)]))
    have V483_ : OView Z _ h482 (oY b482 [.null, .null, .null, .null, .null, (.int 0)] :: oL b468 [(.int 3), (.ref b473), (.int 3)] :: oO3 b473 b470 b474 b478 :: oV b470 [.null, .null, (.ref d471), (.int iA), .null] :: oV b474 [.null, .null, (.ref d475), (.int iB), .null] :: oV b478 [.null, .null, (.ref d479), (.int iC), .null] :: oD d471 [(.int 0), (.int lA), (.int hA)] :: oD d475 [(.int 0), (.int lB), (.int hB)] :: oD d479 [(.int 0), (.int lC), (.int hC)] :: []) := ((((((((V482.bring 6 rfl).bring 8 rfl).bring 5 rfl).bring 7 rfl).bring 8 rfl).bring 7 rfl).bring 7 rfl).bring 7 rfl)
    obtain ⟨_, _, ⟨T483, L483, k483, n483⟩, -, X483, ⟨Lc483, hQ483, l483, y483, z483⟩, st483⟩ := X482.specialBack hx (y := (⟨"com/example/inya/inya/StateLayout", "<init>", "(Ljava/util/List;)V"⟩ : MethodName)) rfl hown (mvT hZ (ow hw 107 rfl)) (mvT hZ (ow hw 108 rfl)) (mvT hZ (ow hw 109 rfl)) (by decide) (backOf (W := 1) (rm_sin1 l Z a0 hw [] b482 b468 b473 b470 b474 b478 d471 d475 d479 iA iB iC lA hA lB hB lC hC h482 n0 _ Z482 Qb.1 Qb.2 hb2 V483_) hZ (ow hw 109 rfl) (ow hw 106 rfl) (by decide) (by decide)) (g := (mkF m 238 #[jv p0, sv, jv p1, sv, jv p2, sv, jv p3, sv, iv p4, iv p5, iv lA, iv hA, iv lB, iv hB, iv lC, iv hC, iv vA, iv vB, iv vC, iv oo, iv tt, iv iA, iv iA, iv iB, iv iC, rv b468, uv, uv, uv, uv, uv, uv, uv, uv] [(.ref b468), (.ref b482), (.ref b482)])) rfl (by rw [hml]; rfl) (Steps.refl _) (a := b482) (argsL := [(.ref b468)]) (rest := [(.ref b482)]) (lenOf pd_32 rfl) rfl (by show 2 * 0 + _ ≤ _; exact Nat.le_of_eq rfl) (hb hby at_238) (fun _ _ => ⟨rfl, e482, nb rfl, nb rfl⟩)
    dsimp only [Pt.U, Pt.locs, Pt.cells, Pt.slots] at X483 l483 y483 z483 st483 hQ483
    rw [l483, y483, z483] at X483
    obtain ⟨rfl, N483q, ai483, aw483, as483, am483, ao483, V483⟩ := hQ483
    have N483 := Fr.app N481 N483q
    have V483v : OView Z n0 T483.heap (oY b482 [(.ref ai483), (.ref aw483), (.ref as483), (.ref am483), (.ref ao483), (.int 2)] :: oI ai483 [iA, iB, iC] :: oI aw483 [0, 0, 1] :: oI as483 [0, ((0 : Int32) + (bt lA hA)), 0] :: oK am483 [(msk (bt lA hA)), (msk (bt lB hB)), (msk (bt lC hC))] :: oI ao483 [lA, lB, lC] :: []) := V483
    have Z483 : n0 ≤ T483.heap.size := V483v.big 0 rfl
    refine OGets.after st483 ?_
    refine og (fun _ => XS.astore X483.here hx rfl (hb hby at_241) rfl rfl (l' := #[jv p0, sv, jv p1, sv, jv p2, sv, jv p3, sv, iv p4, iv p5, iv lA, iv hA, iv lB, iv hB, iv lC, iv hC, iv vA, iv vB, iv vC, iv oo, iv tt, iv iA, iv iA, iv iB, iv iC, rv b468, rv b482, uv, uv, uv, uv, uv, uv, uv]) rfl) ?_
    refine og (fun _ => XS.iconst X483.here hx rfl (hb hby at_243)) ?_
    obtain ⟨T484, h484, k484, X484, e484, E484, A484, st484⟩ := newP X483 hx hZ (ow hw 120 rfl) rfl (g := (mkF m 244 #[jv p0, sv, jv p1, sv, jv p2, sv, jv p3, sv, iv p4, iv p5, iv lA, iv hA, iv lB, iv hB, iv lC, iv hC, iv vA, iv vB, iv vC, iv oo, iv tt, iv iA, iv iA, iv iB, iv iC, rv b468, rv b482, uv, uv, uv, uv, uv, uv, uv] [(.int 3)])) rfl (hb hby at_244) rfl (by decide) (cap := 3) (by decide) (by decide) (by decide) (by decide)
    have V484' := V483v.newArr Z483 E484 A484 3 rfl
    have Z484 : n0 ≤ h484.size := Nat.le_trans Z483 E484.1
    obtain ⟨b484, g484⟩ : ∃ z, z = T483.heap.size := ⟨_, rfl⟩
    rw [← g484] at V484' st484
    have V484 : OView Z n0 h484 (oI b484 [0, 0, 0] :: oY b482 [(.ref ai483), (.ref aw483), (.ref as483), (.ref am483), (.ref ao483), (.int 2)] :: oI ai483 [iA, iB, iC] :: oI aw483 [0, 0, 1] :: oI as483 [0, ((0 : Int32) + (bt lA hA)), 0] :: oK am483 [(msk (bt lA hA)), (msk (bt lB hB)), (msk (bt lC hC))] :: oI ao483 [lA, lB, lC] :: []) := V484'
    refine og st484 ?_
    have Vs485 : OView Z n0 h484 (oA b484 [(0 : Int32), (0 : Int32), (0 : Int32)] :: oY b482 [(.ref ai483), (.ref aw483), (.ref as483), (.ref am483), (.ref ao483), (.int 2)] :: oI ai483 [iA, iB, iC] :: oI aw483 [0, 0, 1] :: oI as483 [0, ((0 : Int32) + (bt lA hA)), 0] :: oK am483 [(msk (bt lA hA)), (msk (bt lB hB)), (msk (bt lC hC))] :: oI ao483 [lA, lB, lC] :: []) := V484
    show OGets p e below _ (T484.setTop (mkF m 246 #[jv p0, sv, jv p1, sv, jv p2, sv, jv p3, sv, iv p4, iv p5, iv lA, iv hA, iv lB, iv hB, iv lC, iv hC, iv vA, iv vB, iv vC, iv oo, iv tt, iv iA, iv iA, iv iB, iv iC, rv b468, rv b482, uv, uv, uv, uv, uv, uv, uv] [(.ref b484)]))
    refine og (fun _ => XS.astore X484.here hx rfl (hb hby at_246) rfl rfl (l' := #[jv p0, sv, jv p1, sv, jv p2, sv, jv p3, sv, iv p4, iv p5, iv lA, iv hA, iv lB, iv hB, iv lC, iv hC, iv vA, iv vB, iv vC, iv oo, iv tt, iv iA, iv iA, iv iB, iv iC, rv b468, rv b482, rv b484, uv, uv, uv, uv, uv, uv]) rfl) ?_
    refine og (fun _ => XS.aload X484.here hx rfl (hb hby at_248) rfl rfl) ?_
    refine og (fun _ => XS.iload X484.here hx rfl (hb hby at_250) rfl) ?_
    refine og (fun _ => XS.iload X484.here hx rfl (hb hby at_252) rfl) ?_
    obtain ⟨cl486, Ar486, S486⟩ := Vs485.arr 0 rfl
    obtain ⟨T486, h486, X486, e486, W486, st486⟩ := stI X484 hx hZ e484 Ar486 (j := iA) (own_sin (n := 3) S486 (by simp only [List.length_map, si_len, sj_len, List.length_replicate, own_l3]) Q3.1) (g := (mkF m 254 #[jv p0, sv, jv p1, sv, jv p2, sv, jv p3, sv, iv p4, iv p5, iv lA, iv hA, iv lB, iv hB, iv lC, iv hC, iv vA, iv vB, iv vC, iv oo, iv tt, iv iA, iv iA, iv iB, iv iC, rv b468, rv b482, rv b484, uv, uv, uv, uv, uv, uv] [(.int vA), (.int iA), (.ref b484)])) rfl rfl (hb hby at_254)
    have V486 : OView Z n0 h486 (oA b484 (si [(0 : Int32), (0 : Int32), (0 : Int32)] iA vA) :: oY b482 [(.ref ai483), (.ref aw483), (.ref as483), (.ref am483), (.ref ao483), (.int 2)] :: oI ai483 [iA, iB, iC] :: oI aw483 [0, 0, 1] :: oI as483 [0, ((0 : Int32) + (bt lA hA)), 0] :: oK am483 [(msk (bt lA hA)), (msk (bt lB hB)), (msk (bt lC hC))] :: oI ao483 [lA, lB, lC] :: []) := Vs485.putI 0 rfl W486
    have N486 := Fr.snoc X486 N483 (Vs485.old 0 rfl)
    have Z486 : n0 ≤ h486.size := by rw [W486.size]; exact Z484
    refine og st486 ?_
    refine og (fun _ => XS.aload X486.here hx rfl (hb hby at_255) rfl rfl) ?_
    refine og (fun _ => XS.iload X486.here hx rfl (hb hby at_257) rfl) ?_
    refine og (fun _ => XS.iload X486.here hx rfl (hb hby at_259) rfl) ?_
    obtain ⟨cl487, Ar487, S487⟩ := V486.arr 0 rfl
    obtain ⟨T487, h487, X487, e487, W487, st487⟩ := stI X486 hx hZ e486 Ar487 (j := iB) (own_sin (n := 3) S487 (by simp only [List.length_map, si_len, sj_len, List.length_replicate, own_l3]) Q3.2.1) (g := (mkF m 261 #[jv p0, sv, jv p1, sv, jv p2, sv, jv p3, sv, iv p4, iv p5, iv lA, iv hA, iv lB, iv hB, iv lC, iv hC, iv vA, iv vB, iv vC, iv oo, iv tt, iv iA, iv iA, iv iB, iv iC, rv b468, rv b482, rv b484, uv, uv, uv, uv, uv, uv] [(.int vB), (.int iB), (.ref b484)])) rfl rfl (hb hby at_261)
    have V487 : OView Z n0 h487 (oA b484 (si (si [(0 : Int32), (0 : Int32), (0 : Int32)] iA vA) iB vB) :: oY b482 [(.ref ai483), (.ref aw483), (.ref as483), (.ref am483), (.ref ao483), (.int 2)] :: oI ai483 [iA, iB, iC] :: oI aw483 [0, 0, 1] :: oI as483 [0, ((0 : Int32) + (bt lA hA)), 0] :: oK am483 [(msk (bt lA hA)), (msk (bt lB hB)), (msk (bt lC hC))] :: oI ao483 [lA, lB, lC] :: []) := V486.putI 0 rfl W487
    have N487 := Fr.snoc X487 N486 (V486.old 0 rfl)
    have Z487 : n0 ≤ h487.size := by rw [W487.size]; exact Z486
    refine og st487 ?_
    refine og (fun _ => XS.aload X487.here hx rfl (hb hby at_262) rfl rfl) ?_
    refine og (fun _ => XS.iload X487.here hx rfl (hb hby at_264) rfl) ?_
    refine og (fun _ => XS.iload X487.here hx rfl (hb hby at_266) rfl) ?_
    obtain ⟨cl488, Ar488, S488⟩ := V487.arr 0 rfl
    obtain ⟨T488, h488, X488, e488, W488, st488⟩ := stI X487 hx hZ e487 Ar488 (j := iC) (own_sin (n := 3) S488 (by simp only [List.length_map, si_len, sj_len, List.length_replicate, own_l3]) Q3.2.2) (g := (mkF m 268 #[jv p0, sv, jv p1, sv, jv p2, sv, jv p3, sv, iv p4, iv p5, iv lA, iv hA, iv lB, iv hB, iv lC, iv hC, iv vA, iv vB, iv vC, iv oo, iv tt, iv iA, iv iA, iv iB, iv iC, rv b468, rv b482, rv b484, uv, uv, uv, uv, uv, uv] [(.int vC), (.int iC), (.ref b484)])) rfl rfl (hb hby at_268)
    have V488 : OView Z n0 h488 (oA b484 (si (si (si [(0 : Int32), (0 : Int32), (0 : Int32)] iA vA) iB vB) iC vC) :: oY b482 [(.ref ai483), (.ref aw483), (.ref as483), (.ref am483), (.ref ao483), (.int 2)] :: oI ai483 [iA, iB, iC] :: oI aw483 [0, 0, 1] :: oI as483 [0, ((0 : Int32) + (bt lA hA)), 0] :: oK am483 [(msk (bt lA hA)), (msk (bt lB hB)), (msk (bt lC hC))] :: oI ao483 [lA, lB, lC] :: []) := V487.putI 0 rfl W488
    have N488 := Fr.snoc X488 N487 (V487.old 0 rfl)
    have Z488 : n0 ≤ h488.size := by rw [W488.size]; exact Z487
    refine og st488 ?_
    refine og (fun _ => XS.iconst X488.here hx rfl (hb hby at_269)) ?_
    obtain ⟨T489, h489, k489, X489, e489, E489, A489, st489⟩ := newP X488 hx hZ (ow hw 127 rfl) e488 (g := (mkF m 270 #[jv p0, sv, jv p1, sv, jv p2, sv, jv p3, sv, iv p4, iv p5, iv lA, iv hA, iv lB, iv hB, iv lC, iv hC, iv vA, iv vB, iv vC, iv oo, iv tt, iv iA, iv iA, iv iB, iv iC, rv b468, rv b482, rv b484, uv, uv, uv, uv, uv, uv] [(.int 2)])) rfl (hb hby at_270) rfl (by decide) (cap := 2) (by decide) (by decide) (by decide) (by decide)
    have V489' := V488.newArr Z488 E489 A489 2 rfl
    have Z489 : n0 ≤ h489.size := Nat.le_trans Z488 E489.1
    obtain ⟨b489, g489⟩ : ∃ z, z = h488.size := ⟨_, rfl⟩
    rw [← g489] at V489' st489
    have V489 : OView Z n0 h489 (oK b489 [0, 0] :: oA b484 (si (si (si [(0 : Int32), (0 : Int32), (0 : Int32)] iA vA) iB vB) iC vC) :: oY b482 [(.ref ai483), (.ref aw483), (.ref as483), (.ref am483), (.ref ao483), (.int 2)] :: oI ai483 [iA, iB, iC] :: oI aw483 [0, 0, 1] :: oI as483 [0, ((0 : Int32) + (bt lA hA)), 0] :: oK am483 [(msk (bt lA hA)), (msk (bt lB hB)), (msk (bt lC hC))] :: oI ao483 [lA, lB, lC] :: []) := V489'
    refine og st489 ?_
    refine og (fun _ => XS.astore X489.here hx rfl (hb hby at_272) rfl rfl (l' := #[jv p0, sv, jv p1, sv, jv p2, sv, jv p3, sv, iv p4, iv p5, iv lA, iv hA, iv lB, iv hB, iv lC, iv hC, iv vA, iv vB, iv vC, iv oo, iv tt, iv iA, iv iA, iv iB, iv iC, rv b468, rv b482, rv b484, rv b489, uv, uv, uv, uv, uv]) rfl) ?_
    refine og (fun _ => XS.aload X489.here hx rfl (hb hby at_274) rfl rfl) ?_
    refine og (fun _ => XS.aload X489.here hx rfl (hb hby at_276) rfl rfl) ?_
    refine og (fun _ => XS.aload X489.here hx rfl (hb hby at_278) rfl rfl) ?_
    have V490_ : OView Z _ h489 (oY b482 [(.ref ai483), (.ref aw483), (.ref as483), (.ref am483), (.ref ao483), (.int 2)] :: oI ai483 [iA, iB, iC] :: oI aw483 [0, 0, 1] :: oI as483 [0, ((0 : Int32) + (bt lA hA)), 0] :: oI ao483 [lA, lB, lC] :: oA b484 (si (si (si [(0 : Int32), (0 : Int32), (0 : Int32)] iA vA) iB vB) iC vC) :: oK b489 [0, 0] :: oK am483 [(msk (bt lA hA)), (msk (bt lB hB)), (msk (bt lC hC))] :: []) := ((((((V489.bring 1 rfl).bring 7 rfl).bring 6 rfl).bring 6 rfl).bring 6 rfl).bring 6 rfl)
    obtain ⟨cq490, kq490, q490a, q490b, q490c⟩ := isOf hZ e489 (V490_.exa 0 rfl)
    obtain ⟨_, _, ⟨T490, L490, k490, n490⟩, -, X490, ⟨Lc490, hQ490, l490, y490, z490⟩, st490⟩ := X489.virtualBack hx (y := (⟨"com/example/inya/inya/StateLayout", "pack", "([I[J)V"⟩ : MethodName)) (z := (⟨"com/example/inya/inya/StateLayout", "pack", "([I[J)V"⟩ : MethodName)) hown (mvT hZ (ow hw 186 rfl)) (mvT hZ (ow hw 187 rfl)) (notFace_of_selects (args := #[]) (mvT hZ (ow hw 189 rfl))) (mvT hZ (ow hw 189 rfl)) (mvT hZ (ow hw 188 rfl)) (by decide) (backOf (W := 0) (rm_pack1 l Z a0 hw [] b482 ai483 aw483 as483 am483 ao483 b484 b489 iA iB iC ((0 : Int32) + (bt lA hA)) (((0 : Int32) + (bt lA hA)) + (bt lB hB)) lA lB lC (si (si (si [(0 : Int32), (0 : Int32), (0 : Int32)] iA vA) iB vB) iC vC) h489 n0 _ Z489 (by simp only [si_len, own_l3]) Q3.1 Q3.2.1 Q3.2.2 V490_) hZ (ow hw 190 rfl) (ow hw 106 rfl) (by decide) (by decide)) q490a q490c (g := (mkF m 280 #[jv p0, sv, jv p1, sv, jv p2, sv, jv p3, sv, iv p4, iv p5, iv lA, iv hA, iv lB, iv hB, iv lC, iv hC, iv vA, iv vB, iv vC, iv oo, iv tt, iv iA, iv iA, iv iB, iv iC, rv b468, rv b482, rv b484, rv b489, uv, uv, uv, uv, uv] [(.ref b489), (.ref b484), (.ref b482)])) rfl (by rw [hml]; rfl) (Steps.refl _) (argsL := [(.ref b484), (.ref b489)]) (rest := []) (lenOf pd_33 rfl) rfl (by show 2 * 0 + _ ≤ _; exact Nat.le_of_eq rfl) (hb hby at_280) (fun _ _ => ⟨rfl, e489, nb rfl, nb rfl⟩)
    dsimp only [Pt.U, Pt.locs, Pt.cells, Pt.slots] at X490 l490 y490 z490 st490 hQ490
    rw [l490, y490, z490] at X490
    obtain ⟨rfl, N490q, T0, T1, hT0, hT1, V490⟩ := hQ490
    have N490 := Fr.app N488 N490q
    have V490v : OView Z n0 T490.heap (oY b482 [(.ref ai483), (.ref aw483), (.ref as483), (.ref am483), (.ref ao483), (.int 2)] :: oI ai483 [iA, iB, iC] :: oI aw483 [0, 0, 1] :: oI as483 [0, ((0 : Int32) + (bt lA hA)), 0] :: oI ao483 [lA, lB, lC] :: oA b484 (si (si (si [(0 : Int32), (0 : Int32), (0 : Int32)] iA vA) iB vB) iC vC) :: oK b489 [T0, T1] :: oK am483 [(msk (bt lA hA)), (msk (bt lB hB)), (msk (bt lC hC))] :: []) := V490
    have Z490 : n0 ≤ T490.heap.size := V490v.big 0 rfl
    refine OGets.after st490 ?_
    refine og (fun _ => X490.ldc2Long hx hown (mvT hZ (ow hw 195 rfl)) (g := (mkF m 283 #[jv p0, sv, jv p1, sv, jv p2, sv, jv p3, sv, iv p4, iv p5, iv lA, iv hA, iv lB, iv hB, iv lC, iv hC, iv vA, iv vB, iv vC, iv oo, iv tt, iv iA, iv iA, iv iB, iv iC, rv b468, rv b482, rv b484, rv b489, uv, uv, uv, uv, uv] [])) rfl (hb hby at_283) _) ?_
    refine og (fun _ => XS.lstore X490.here hx rfl (hb hby at_286) rfl (l' := #[jv p0, sv, jv p1, sv, jv p2, sv, jv p3, sv, iv p4, iv p5, iv lA, iv hA, iv lB, iv hB, iv lC, iv hC, iv vA, iv vB, iv vC, iv oo, iv tt, iv iA, iv iA, iv iB, iv iC, rv b468, rv b482, rv b484, rv b489, jv (-6510615555426900571 : Int64), sv, uv, uv, uv]) rfl) ?_
    refine og (fun _ => XS.iconst X490.here hx rfl (hb hby at_288)) ?_
    obtain ⟨T491, h491, k491, X491, e491, E491, A491, st491⟩ := newP X490 hx hZ (ow hw 127 rfl) rfl (g := (mkF m 289 #[jv p0, sv, jv p1, sv, jv p2, sv, jv p3, sv, iv p4, iv p5, iv lA, iv hA, iv lB, iv hB, iv lC, iv hC, iv vA, iv vB, iv vC, iv oo, iv tt, iv iA, iv iA, iv iB, iv iC, rv b468, rv b482, rv b484, rv b489, jv (-6510615555426900571 : Int64), sv, uv, uv, uv] [(.int 4)])) rfl (hb hby at_289) rfl (by decide) (cap := 4) (by decide) (by decide) (by decide) (by decide)
    have V491' := V490v.newArr Z490 E491 A491 4 rfl
    have Z491 : n0 ≤ h491.size := Nat.le_trans Z490 E491.1
    obtain ⟨b491, g491⟩ : ∃ z, z = T490.heap.size := ⟨_, rfl⟩
    rw [← g491] at V491' st491
    have V491 : OView Z n0 h491 (oK b491 [0, 0, 0, 0] :: oY b482 [(.ref ai483), (.ref aw483), (.ref as483), (.ref am483), (.ref ao483), (.int 2)] :: oI ai483 [iA, iB, iC] :: oI aw483 [0, 0, 1] :: oI as483 [0, ((0 : Int32) + (bt lA hA)), 0] :: oI ao483 [lA, lB, lC] :: oA b484 (si (si (si [(0 : Int32), (0 : Int32), (0 : Int32)] iA vA) iB vB) iC vC) :: oK b489 [T0, T1] :: oK am483 [(msk (bt lA hA)), (msk (bt lB hB)), (msk (bt lC hC))] :: []) := V491'
    refine og st491 ?_
    refine og (fun _ => XS.dup X491.here hx rfl (hb hby at_291) rfl rfl) ?_
    refine og (fun _ => XS.iconst X491.here hx rfl (hb hby at_292)) ?_
    refine og (fun _ => XS.lload X491.here hx rfl (hb hby at_293) rfl) ?_
    obtain ⟨cl492, Ar492, S492⟩ := V491.arr 0 rfl
    obtain ⟨T492, h492, X492, e492, W492', st492⟩ := stJ X491 hx hZ e491 Ar492 (j := (0 : Int32)) (own_inb S492 0 (by decide) (nb rfl)) (g := (mkF m 295 #[jv p0, sv, jv p1, sv, jv p2, sv, jv p3, sv, iv p4, iv p5, iv lA, iv hA, iv lB, iv hB, iv lC, iv hC, iv vA, iv vB, iv vC, iv oo, iv tt, iv iA, iv iA, iv iB, iv iC, rv b468, rv b482, rv b484, rv b489, jv (-6510615555426900571 : Int64), sv, uv, uv, uv] [(.long (-6510615555426900571 : Int64)), (.int 0), (.ref b491), (.ref b491)])) rfl rfl (hb hby at_295)
    have W492 := own_wr (vs := []) 0 (by decide) W492'
    have V492 : OView Z n0 h492 (oK b491 [(-6510615555426900571 : Int64), 0, 0, 0] :: oY b482 [(.ref ai483), (.ref aw483), (.ref as483), (.ref am483), (.ref ao483), (.int 2)] :: oI ai483 [iA, iB, iC] :: oI aw483 [0, 0, 1] :: oI as483 [0, ((0 : Int32) + (bt lA hA)), 0] :: oI ao483 [lA, lB, lC] :: oA b484 (si (si (si [(0 : Int32), (0 : Int32), (0 : Int32)] iA vA) iB vB) iC vC) :: oK b489 [T0, T1] :: oK am483 [(msk (bt lA hA)), (msk (bt lB hB)), (msk (bt lC hC))] :: []) := V491.putA 0 rfl W492
    have N492 := Fr.snoc X492 N490 (V491.old 0 rfl)
    have Z492 : n0 ≤ h492.size := by rw [W492.size]; exact Z491
    refine og st492 ?_
    refine og (fun _ => XS.dup X492.here hx rfl (hb hby at_296) rfl rfl) ?_
    refine og (fun _ => XS.iconst X492.here hx rfl (hb hby at_297)) ?_
    refine og (fun _ => XS.lload X492.here hx rfl (hb hby at_298) rfl) ?_
    obtain ⟨cl493, Ar493, S493⟩ := V492.arr 0 rfl
    obtain ⟨T493, h493, X493, e493, W493', st493⟩ := stJ X492 hx hZ e492 Ar493 (j := (1 : Int32)) (own_inb S493 1 (by decide) (nb rfl)) (g := (mkF m 300 #[jv p0, sv, jv p1, sv, jv p2, sv, jv p3, sv, iv p4, iv p5, iv lA, iv hA, iv lB, iv hB, iv lC, iv hC, iv vA, iv vB, iv vC, iv oo, iv tt, iv iA, iv iA, iv iB, iv iC, rv b468, rv b482, rv b484, rv b489, jv (-6510615555426900571 : Int64), sv, uv, uv, uv] [(.long (-6510615555426900571 : Int64)), (.int 1), (.ref b491), (.ref b491)])) rfl rfl (hb hby at_300)
    have W493 := own_wr (vs := []) 1 (by decide) W493'
    have V493 : OView Z n0 h493 (oK b491 [(-6510615555426900571 : Int64), (-6510615555426900571 : Int64), 0, 0] :: oY b482 [(.ref ai483), (.ref aw483), (.ref as483), (.ref am483), (.ref ao483), (.int 2)] :: oI ai483 [iA, iB, iC] :: oI aw483 [0, 0, 1] :: oI as483 [0, ((0 : Int32) + (bt lA hA)), 0] :: oI ao483 [lA, lB, lC] :: oA b484 (si (si (si [(0 : Int32), (0 : Int32), (0 : Int32)] iA vA) iB vB) iC vC) :: oK b489 [T0, T1] :: oK am483 [(msk (bt lA hA)), (msk (bt lB hB)), (msk (bt lC hC))] :: []) := V492.putA 0 rfl W493
    have N493 := Fr.snoc X493 N492 (V492.old 0 rfl)
    have Z493 : n0 ≤ h493.size := by rw [W493.size]; exact Z492
    refine og st493 ?_
    refine og (fun _ => XS.dup X493.here hx rfl (hb hby at_301) rfl rfl) ?_
    refine og (fun _ => XS.iconst X493.here hx rfl (hb hby at_302)) ?_
    refine og (fun _ => XS.lload X493.here hx rfl (hb hby at_303) rfl) ?_
    obtain ⟨cl494, Ar494, S494⟩ := V493.arr 0 rfl
    obtain ⟨T494, h494, X494, e494, W494', st494⟩ := stJ X493 hx hZ e493 Ar494 (j := (2 : Int32)) (own_inb S494 2 (by decide) (nb rfl)) (g := (mkF m 305 #[jv p0, sv, jv p1, sv, jv p2, sv, jv p3, sv, iv p4, iv p5, iv lA, iv hA, iv lB, iv hB, iv lC, iv hC, iv vA, iv vB, iv vC, iv oo, iv tt, iv iA, iv iA, iv iB, iv iC, rv b468, rv b482, rv b484, rv b489, jv (-6510615555426900571 : Int64), sv, uv, uv, uv] [(.long (-6510615555426900571 : Int64)), (.int 2), (.ref b491), (.ref b491)])) rfl rfl (hb hby at_305)
    have W494 := own_wr (vs := []) 2 (by decide) W494'
    have V494 : OView Z n0 h494 (oK b491 [(-6510615555426900571 : Int64), (-6510615555426900571 : Int64), (-6510615555426900571 : Int64), 0] :: oY b482 [(.ref ai483), (.ref aw483), (.ref as483), (.ref am483), (.ref ao483), (.int 2)] :: oI ai483 [iA, iB, iC] :: oI aw483 [0, 0, 1] :: oI as483 [0, ((0 : Int32) + (bt lA hA)), 0] :: oI ao483 [lA, lB, lC] :: oA b484 (si (si (si [(0 : Int32), (0 : Int32), (0 : Int32)] iA vA) iB vB) iC vC) :: oK b489 [T0, T1] :: oK am483 [(msk (bt lA hA)), (msk (bt lB hB)), (msk (bt lC hC))] :: []) := V493.putA 0 rfl W494
    have N494 := Fr.snoc X494 N493 (V493.old 0 rfl)
    have Z494 : n0 ≤ h494.size := by rw [W494.size]; exact Z493
    refine og st494 ?_
    refine og (fun _ => XS.dup X494.here hx rfl (hb hby at_306) rfl rfl) ?_
    refine og (fun _ => XS.iconst X494.here hx rfl (hb hby at_307)) ?_
    refine og (fun _ => XS.lload X494.here hx rfl (hb hby at_308) rfl) ?_
    obtain ⟨cl495, Ar495, S495⟩ := V494.arr 0 rfl
    obtain ⟨T495, h495, X495, e495, W495', st495⟩ := stJ X494 hx hZ e494 Ar495 (j := (3 : Int32)) (own_inb S495 3 (by decide) (nb rfl)) (g := (mkF m 310 #[jv p0, sv, jv p1, sv, jv p2, sv, jv p3, sv, iv p4, iv p5, iv lA, iv hA, iv lB, iv hB, iv lC, iv hC, iv vA, iv vB, iv vC, iv oo, iv tt, iv iA, iv iA, iv iB, iv iC, rv b468, rv b482, rv b484, rv b489, jv (-6510615555426900571 : Int64), sv, uv, uv, uv] [(.long (-6510615555426900571 : Int64)), (.int 3), (.ref b491), (.ref b491)])) rfl rfl (hb hby at_310)
    have W495 := own_wr (vs := []) 3 (by decide) W495'
    have V495 : OView Z n0 h495 (oK b491 [(-6510615555426900571 : Int64), (-6510615555426900571 : Int64), (-6510615555426900571 : Int64), (-6510615555426900571 : Int64)] :: oY b482 [(.ref ai483), (.ref aw483), (.ref as483), (.ref am483), (.ref ao483), (.int 2)] :: oI ai483 [iA, iB, iC] :: oI aw483 [0, 0, 1] :: oI as483 [0, ((0 : Int32) + (bt lA hA)), 0] :: oI ao483 [lA, lB, lC] :: oA b484 (si (si (si [(0 : Int32), (0 : Int32), (0 : Int32)] iA vA) iB vB) iC vC) :: oK b489 [T0, T1] :: oK am483 [(msk (bt lA hA)), (msk (bt lB hB)), (msk (bt lC hC))] :: []) := V494.putA 0 rfl W495
    have N495 := Fr.snoc X495 N494 (V494.old 0 rfl)
    have Z495 : n0 ≤ h495.size := by rw [W495.size]; exact Z494
    refine og st495 ?_
    have Vs496 : OView Z n0 h495 (oB b491 [(-6510615555426900571 : Int64), (-6510615555426900571 : Int64), (-6510615555426900571 : Int64), (-6510615555426900571 : Int64)] :: oY b482 [(.ref ai483), (.ref aw483), (.ref as483), (.ref am483), (.ref ao483), (.int 2)] :: oI ai483 [iA, iB, iC] :: oI aw483 [0, 0, 1] :: oI as483 [0, ((0 : Int32) + (bt lA hA)), 0] :: oI ao483 [lA, lB, lC] :: oA b484 (si (si (si [(0 : Int32), (0 : Int32), (0 : Int32)] iA vA) iB vB) iC vC) :: oK b489 [T0, T1] :: oK am483 [(msk (bt lA hA)), (msk (bt lB hB)), (msk (bt lC hC))] :: []) := V495
    show OGets p e below _ (T495.setTop (mkF m 311 #[jv p0, sv, jv p1, sv, jv p2, sv, jv p3, sv, iv p4, iv p5, iv lA, iv hA, iv lB, iv hB, iv lC, iv hC, iv vA, iv vB, iv vC, iv oo, iv tt, iv iA, iv iA, iv iB, iv iC, rv b468, rv b482, rv b484, rv b489, jv (-6510615555426900571 : Int64), sv, uv, uv, uv] [(.ref b491)]))
    refine og (fun _ => XS.astore X495.here hx rfl (hb hby at_311) rfl rfl (l' := #[jv p0, sv, jv p1, sv, jv p2, sv, jv p3, sv, iv p4, iv p5, iv lA, iv hA, iv lB, iv hB, iv lC, iv hC, iv vA, iv vB, iv vC, iv oo, iv tt, iv iA, iv iA, iv iB, iv iC, rv b468, rv b482, rv b484, rv b489, jv (-6510615555426900571 : Int64), sv, rv b491, uv, uv]) rfl) ?_
    refine og (fun _ => XS.aload X495.here hx rfl (hb hby at_313) rfl rfl) ?_
    refine og (fun _ => XS.iload X495.here hx rfl (hb hby at_315) rfl) ?_
    refine og (fun _ => XS.aload X495.here hx rfl (hb hby at_317) rfl rfl) ?_
    refine og (fun _ => XS.iconst X495.here hx rfl (hb hby at_319)) ?_
    obtain ⟨cl497, Ar497, S497⟩ := Vs496.arr 7 rfl
    refine og (fun _ => X495.laload hx (j := (0 : Int32)) (v := (.long T0)) (by rw [e495]; exact Ar497.1) (State.isArrayOf_alike hZ.alike Ar497.2.1) Ar497.2.2 (own_inb S497 0 (by decide) (nb rfl)) (own_get S497 0 (by decide) rfl) (g := (mkF m 320 #[jv p0, sv, jv p1, sv, jv p2, sv, jv p3, sv, iv p4, iv p5, iv lA, iv hA, iv lB, iv hB, iv lC, iv hC, iv vA, iv vB, iv vC, iv oo, iv tt, iv iA, iv iA, iv iB, iv iC, rv b468, rv b482, rv b484, rv b489, jv (-6510615555426900571 : Int64), sv, rv b491, uv, uv] [(.int 0), (.ref b489), (.int oo), (.ref b491)])) rfl rfl (hb hby at_320) _) ?_
    show OGets p e below _ (T495.setTop (mkF m 321 #[jv p0, sv, jv p1, sv, jv p2, sv, jv p3, sv, iv p4, iv p5, iv lA, iv hA, iv lB, iv hB, iv lC, iv hC, iv vA, iv vB, iv vC, iv oo, iv tt, iv iA, iv iA, iv iB, iv iC, rv b468, rv b482, rv b484, rv b489, jv (-6510615555426900571 : Int64), sv, rv b491, uv, uv] [(.long T0), (.int oo), (.ref b491)]))
    obtain ⟨cl498, Ar498, S498⟩ := Vs496.arr 0 rfl
    obtain ⟨T498, h498, X498, e498, W498, st498⟩ := stJ X495 hx hZ e495 Ar498 (j := oo) (own_sin (n := 4) S498 (by simp only [List.length_map, si_len, sj_len, List.length_replicate, own_l4]) Q4.1) (g := (mkF m 321 #[jv p0, sv, jv p1, sv, jv p2, sv, jv p3, sv, iv p4, iv p5, iv lA, iv hA, iv lB, iv hB, iv lC, iv hC, iv vA, iv vB, iv vC, iv oo, iv tt, iv iA, iv iA, iv iB, iv iC, rv b468, rv b482, rv b484, rv b489, jv (-6510615555426900571 : Int64), sv, rv b491, uv, uv] [(.long T0), (.int oo), (.ref b491)])) rfl rfl (hb hby at_321)
    have V498 : OView Z n0 h498 (oB b491 (sj [(-6510615555426900571 : Int64), (-6510615555426900571 : Int64), (-6510615555426900571 : Int64), (-6510615555426900571 : Int64)] oo T0) :: oY b482 [(.ref ai483), (.ref aw483), (.ref as483), (.ref am483), (.ref ao483), (.int 2)] :: oI ai483 [iA, iB, iC] :: oI aw483 [0, 0, 1] :: oI as483 [0, ((0 : Int32) + (bt lA hA)), 0] :: oI ao483 [lA, lB, lC] :: oA b484 (si (si (si [(0 : Int32), (0 : Int32), (0 : Int32)] iA vA) iB vB) iC vC) :: oK b489 [T0, T1] :: oK am483 [(msk (bt lA hA)), (msk (bt lB hB)), (msk (bt lC hC))] :: []) := Vs496.putJ 0 rfl W498
    have N498 := Fr.snoc X498 N495 (Vs496.old 0 rfl)
    have Z498 : n0 ≤ h498.size := by rw [W498.size]; exact Z495
    refine og st498 ?_
    refine og (fun _ => XS.aload X498.here hx rfl (hb hby at_322) rfl rfl) ?_
    have V499_ : OView Z _ h498 (oY b482 [(.ref ai483), (.ref aw483), (.ref as483), (.ref am483), (.ref ao483), (.int 2)] :: oB b491 (sj [(-6510615555426900571 : Int64), (-6510615555426900571 : Int64), (-6510615555426900571 : Int64), (-6510615555426900571 : Int64)] oo T0) :: oI ai483 [iA, iB, iC] :: oI aw483 [0, 0, 1] :: oI as483 [0, ((0 : Int32) + (bt lA hA)), 0] :: oI ao483 [lA, lB, lC] :: oA b484 (si (si (si [(0 : Int32), (0 : Int32), (0 : Int32)] iA vA) iB vB) iC vC) :: oK b489 [T0, T1] :: oK am483 [(msk (bt lA hA)), (msk (bt lB hB)), (msk (bt lC hC))] :: []) := (V498.bring 1 rfl)
    obtain ⟨cq499, kq499, q499a, q499b, q499c⟩ := isOf hZ e498 (V499_.exa 0 rfl)
    obtain ⟨_, _, ⟨T499, L499, k499, n499⟩, -, X499, ⟨Lc499, hQ499, l499, y499, z499⟩, st499⟩ := X498.virtualBack hx (y := (⟨"com/example/inya/inya/StateLayout", "words", "()I"⟩ : MethodName)) (z := (⟨"com/example/inya/inya/StateLayout", "words", "()I"⟩ : MethodName)) hown (mvT hZ (ow hw 196 rfl)) (mvT hZ (ow hw 197 rfl)) (notFace_of_selects (args := #[]) (mvT hZ (ow hw 199 rfl))) (mvT hZ (ow hw 199 rfl)) (mvT hZ (ow hw 198 rfl)) (by decide) (backOf (W := 0) (rm_wds l Z a0 hw [] b482 ai483 aw483 as483 am483 ao483 (2 : Int32) h498 n0 _ Z498  V499_) hZ (ow hw 200 rfl) (ow hw 106 rfl) (by decide) (by decide)) q499a q499c (g := (mkF m 324 #[jv p0, sv, jv p1, sv, jv p2, sv, jv p3, sv, iv p4, iv p5, iv lA, iv hA, iv lB, iv hB, iv lC, iv hC, iv vA, iv vB, iv vC, iv oo, iv tt, iv iA, iv iA, iv iB, iv iC, rv b468, rv b482, rv b484, rv b489, jv (-6510615555426900571 : Int64), sv, rv b491, uv, uv] [(.ref b482)])) rfl (by rw [hml]; rfl) (Steps.refl _) (argsL := []) (rest := []) (lenOf pd_21 rfl) rfl (by show 2 * 0 + _ ≤ _; exact Nat.le_of_eq rfl) (hb hby at_324) (fun _ _ => ⟨rfl, e498, nb rfl, nb rfl⟩)
    dsimp only [Pt.U, Pt.locs, Pt.cells, Pt.slots] at X499 l499 y499 z499 st499 hQ499
    rw [l499, y499, z499] at X499
    obtain ⟨rfl, rfl, e499⟩ := hQ499
    have N499 := Fr.app N498 (Fr.nil n0)
    refine OGets.after st499 ?_
    refine og (fun _ => XS.iconst X499.here hx rfl (hb hby at_327)) ?_
    refine og (fun _ => XS.icmpNo X499.here hx rfl (hb hby at_328) rfl (tlt (by decide : (1 : Int32) < (2 : Int32))).2.2.2) ?_
    refine og (fun _ => XS.aload X499.here hx rfl (hb hby at_331) rfl rfl) ?_
    refine og (fun _ => XS.iload X499.here hx rfl (hb hby at_333) rfl) ?_
    refine og (fun _ => XS.iconst X499.here hx rfl (hb hby at_335)) ?_
    show OGets p e below _ (T499.setTop (mkF m 336 #[jv p0, sv, jv p1, sv, jv p2, sv, jv p3, sv, iv p4, iv p5, iv lA, iv hA, iv lB, iv hB, iv lC, iv hC, iv vA, iv vB, iv vC, iv oo, iv tt, iv iA, iv iA, iv iB, iv iC, rv b468, rv b482, rv b484, rv b489, jv (-6510615555426900571 : Int64), sv, rv b491, uv, uv] [(.int 1), (.int oo), (.ref b491)]))
    refine og (fun _ => XS.iadd X499.here hx rfl (hb hby at_336) rfl) ?_
    refine og (fun _ => XS.aload X499.here hx rfl (hb hby at_337) rfl rfl) ?_
    refine og (fun _ => XS.iconst X499.here hx rfl (hb hby at_339)) ?_
    obtain ⟨cl501, Ar501, S501⟩ := V499_.arr 7 rfl
    refine og (fun _ => X499.laload hx (j := (1 : Int32)) (v := (.long T1)) (by rw [e499]; exact Ar501.1) (State.isArrayOf_alike hZ.alike Ar501.2.1) Ar501.2.2 (own_inb S501 1 (by decide) (nb rfl)) (own_get S501 1 (by decide) rfl) (g := (mkF m 340 #[jv p0, sv, jv p1, sv, jv p2, sv, jv p3, sv, iv p4, iv p5, iv lA, iv hA, iv lB, iv hB, iv lC, iv hC, iv vA, iv vB, iv vC, iv oo, iv tt, iv iA, iv iA, iv iB, iv iC, rv b468, rv b482, rv b484, rv b489, jv (-6510615555426900571 : Int64), sv, rv b491, uv, uv] [(.int 1), (.ref b489), (.int (oo + (1 : Int32))), (.ref b491)])) rfl rfl (hb hby at_340) _) ?_
    obtain ⟨cl502, Ar502, S502⟩ := V499_.arr 1 rfl
    obtain ⟨T502, h502, X502, e502, W502, st502⟩ := stJ X499 hx hZ e499 Ar502 (j := (oo + (1 : Int32))) (own_sin (n := 4) S502 (by simp only [List.length_map, si_len, sj_len, List.length_replicate, own_l4]) Q4.2.2) (g := (mkF m 341 #[jv p0, sv, jv p1, sv, jv p2, sv, jv p3, sv, iv p4, iv p5, iv lA, iv hA, iv lB, iv hB, iv lC, iv hC, iv vA, iv vB, iv vC, iv oo, iv tt, iv iA, iv iA, iv iB, iv iC, rv b468, rv b482, rv b484, rv b489, jv (-6510615555426900571 : Int64), sv, rv b491, uv, uv] [(.long T1), (.int (oo + (1 : Int32))), (.ref b491)])) rfl rfl (hb hby at_341)
    have V502 : OView Z n0 h502 (oY b482 [(.ref ai483), (.ref aw483), (.ref as483), (.ref am483), (.ref ao483), (.int 2)] :: oB b491 (sj (sj [(-6510615555426900571 : Int64), (-6510615555426900571 : Int64), (-6510615555426900571 : Int64), (-6510615555426900571 : Int64)] oo T0) (oo + (1 : Int32)) T1) :: oI ai483 [iA, iB, iC] :: oI aw483 [0, 0, 1] :: oI as483 [0, ((0 : Int32) + (bt lA hA)), 0] :: oI ao483 [lA, lB, lC] :: oA b484 (si (si (si [(0 : Int32), (0 : Int32), (0 : Int32)] iA vA) iB vB) iC vC) :: oK b489 [T0, T1] :: oK am483 [(msk (bt lA hA)), (msk (bt lB hB)), (msk (bt lC hC))] :: []) := V499_.putJ 1 rfl W502
    have N502 := Fr.snoc X502 N499 (V499_.old 1 rfl)
    have Z502 : n0 ≤ h502.size := by rw [W502.size]; exact Z498
    refine og st502 ?_
    refine og (fun _ => X502.ldcInt hx hown (mvT hZ (ow hw 201 rfl)) (g := (mkF m 342 #[jv p0, sv, jv p1, sv, jv p2, sv, jv p3, sv, iv p4, iv p5, iv lA, iv hA, iv lB, iv hB, iv lC, iv hC, iv vA, iv vB, iv vC, iv oo, iv tt, iv iA, iv iA, iv iB, iv iC, rv b468, rv b482, rv b484, rv b489, jv (-6510615555426900571 : Int64), sv, rv b491, uv, uv] [])) rfl (hb hby at_342) _) ?_
    refine og (fun _ => XS.istore X502.here hx rfl (hb hby at_344) rfl (l' := #[jv p0, sv, jv p1, sv, jv p2, sv, jv p3, sv, iv p4, iv p5, iv lA, iv hA, iv lB, iv hB, iv lC, iv hC, iv vA, iv vB, iv vC, iv oo, iv tt, iv iA, iv iA, iv iB, iv iC, rv b468, rv b482, rv b484, rv b489, jv (-6510615555426900571 : Int64), sv, rv b491, iv 324508639, uv]) rfl) ?_
    refine og (fun _ => XS.bipush X502.here hx rfl (hb hby at_346)) ?_
    obtain ⟨T503, h503, k503, X503, e503, E503, A503, st503⟩ := newP X502 hx hZ (ow hw 120 rfl) e502 (g := (mkF m 348 #[jv p0, sv, jv p1, sv, jv p2, sv, jv p3, sv, iv p4, iv p5, iv lA, iv hA, iv lB, iv hB, iv lC, iv hC, iv vA, iv vB, iv vC, iv oo, iv tt, iv iA, iv iA, iv iB, iv iC, rv b468, rv b482, rv b484, rv b489, jv (-6510615555426900571 : Int64), sv, rv b491, iv 324508639, uv] [(.int 7)])) rfl (hb hby at_348) rfl (by decide) (cap := 7) (by decide) (by decide) (by decide) (by decide)
    have V503' := V502.newArr Z502 E503 A503 7 rfl
    have Z503 : n0 ≤ h503.size := Nat.le_trans Z502 E503.1
    obtain ⟨b503, g503⟩ : ∃ z, z = h502.size := ⟨_, rfl⟩
    rw [← g503] at V503' st503
    have V503 : OView Z n0 h503 (oI b503 [0, 0, 0, 0, 0, 0, 0] :: oY b482 [(.ref ai483), (.ref aw483), (.ref as483), (.ref am483), (.ref ao483), (.int 2)] :: oB b491 (sj (sj [(-6510615555426900571 : Int64), (-6510615555426900571 : Int64), (-6510615555426900571 : Int64), (-6510615555426900571 : Int64)] oo T0) (oo + (1 : Int32)) T1) :: oI ai483 [iA, iB, iC] :: oI aw483 [0, 0, 1] :: oI as483 [0, ((0 : Int32) + (bt lA hA)), 0] :: oI ao483 [lA, lB, lC] :: oA b484 (si (si (si [(0 : Int32), (0 : Int32), (0 : Int32)] iA vA) iB vB) iC vC) :: oK b489 [T0, T1] :: oK am483 [(msk (bt lA hA)), (msk (bt lB hB)), (msk (bt lC hC))] :: []) := V503'
    refine og st503 ?_
    refine og (fun _ => XS.dup X503.here hx rfl (hb hby at_350) rfl rfl) ?_
    refine og (fun _ => XS.iconst X503.here hx rfl (hb hby at_351)) ?_
    refine og (fun _ => XS.iload X503.here hx rfl (hb hby at_352) rfl) ?_
    obtain ⟨cl504, Ar504, S504⟩ := V503.arr 0 rfl
    obtain ⟨T504, h504, X504, e504, W504', st504⟩ := stI X503 hx hZ e503 Ar504 (j := (0 : Int32)) (own_inb S504 0 (by decide) (nb rfl)) (g := (mkF m 354 #[jv p0, sv, jv p1, sv, jv p2, sv, jv p3, sv, iv p4, iv p5, iv lA, iv hA, iv lB, iv hB, iv lC, iv hC, iv vA, iv vB, iv vC, iv oo, iv tt, iv iA, iv iA, iv iB, iv iC, rv b468, rv b482, rv b484, rv b489, jv (-6510615555426900571 : Int64), sv, rv b491, iv 324508639, uv] [(.int 324508639), (.int 0), (.ref b503), (.ref b503)])) rfl rfl (hb hby at_354)
    have W504 := own_wr (vs := []) 0 (by decide) W504'
    have V504 : OView Z n0 h504 (oI b503 [(324508639 : Int32), 0, 0, 0, 0, 0, 0] :: oY b482 [(.ref ai483), (.ref aw483), (.ref as483), (.ref am483), (.ref ao483), (.int 2)] :: oB b491 (sj (sj [(-6510615555426900571 : Int64), (-6510615555426900571 : Int64), (-6510615555426900571 : Int64), (-6510615555426900571 : Int64)] oo T0) (oo + (1 : Int32)) T1) :: oI ai483 [iA, iB, iC] :: oI aw483 [0, 0, 1] :: oI as483 [0, ((0 : Int32) + (bt lA hA)), 0] :: oI ao483 [lA, lB, lC] :: oA b484 (si (si (si [(0 : Int32), (0 : Int32), (0 : Int32)] iA vA) iB vB) iC vC) :: oK b489 [T0, T1] :: oK am483 [(msk (bt lA hA)), (msk (bt lB hB)), (msk (bt lC hC))] :: []) := V503.putA 0 rfl W504
    have N504 := Fr.snoc X504 N502 (V503.old 0 rfl)
    have Z504 : n0 ≤ h504.size := by rw [W504.size]; exact Z503
    refine og st504 ?_
    refine og (fun _ => XS.dup X504.here hx rfl (hb hby at_355) rfl rfl) ?_
    refine og (fun _ => XS.iconst X504.here hx rfl (hb hby at_356)) ?_
    refine og (fun _ => XS.iload X504.here hx rfl (hb hby at_357) rfl) ?_
    obtain ⟨cl505, Ar505, S505⟩ := V504.arr 0 rfl
    obtain ⟨T505, h505, X505, e505, W505', st505⟩ := stI X504 hx hZ e504 Ar505 (j := (1 : Int32)) (own_inb S505 1 (by decide) (nb rfl)) (g := (mkF m 359 #[jv p0, sv, jv p1, sv, jv p2, sv, jv p3, sv, iv p4, iv p5, iv lA, iv hA, iv lB, iv hB, iv lC, iv hC, iv vA, iv vB, iv vC, iv oo, iv tt, iv iA, iv iA, iv iB, iv iC, rv b468, rv b482, rv b484, rv b489, jv (-6510615555426900571 : Int64), sv, rv b491, iv 324508639, uv] [(.int 324508639), (.int 1), (.ref b503), (.ref b503)])) rfl rfl (hb hby at_359)
    have W505 := own_wr (vs := []) 1 (by decide) W505'
    have V505 : OView Z n0 h505 (oI b503 [(324508639 : Int32), (324508639 : Int32), 0, 0, 0, 0, 0] :: oY b482 [(.ref ai483), (.ref aw483), (.ref as483), (.ref am483), (.ref ao483), (.int 2)] :: oB b491 (sj (sj [(-6510615555426900571 : Int64), (-6510615555426900571 : Int64), (-6510615555426900571 : Int64), (-6510615555426900571 : Int64)] oo T0) (oo + (1 : Int32)) T1) :: oI ai483 [iA, iB, iC] :: oI aw483 [0, 0, 1] :: oI as483 [0, ((0 : Int32) + (bt lA hA)), 0] :: oI ao483 [lA, lB, lC] :: oA b484 (si (si (si [(0 : Int32), (0 : Int32), (0 : Int32)] iA vA) iB vB) iC vC) :: oK b489 [T0, T1] :: oK am483 [(msk (bt lA hA)), (msk (bt lB hB)), (msk (bt lC hC))] :: []) := V504.putA 0 rfl W505
    have N505 := Fr.snoc X505 N504 (V504.old 0 rfl)
    have Z505 : n0 ≤ h505.size := by rw [W505.size]; exact Z504
    refine og st505 ?_
    refine og (fun _ => XS.dup X505.here hx rfl (hb hby at_360) rfl rfl) ?_
    refine og (fun _ => XS.iconst X505.here hx rfl (hb hby at_361)) ?_
    refine og (fun _ => XS.iload X505.here hx rfl (hb hby at_362) rfl) ?_
    obtain ⟨cl506, Ar506, S506⟩ := V505.arr 0 rfl
    obtain ⟨T506, h506, X506, e506, W506', st506⟩ := stI X505 hx hZ e505 Ar506 (j := (2 : Int32)) (own_inb S506 2 (by decide) (nb rfl)) (g := (mkF m 364 #[jv p0, sv, jv p1, sv, jv p2, sv, jv p3, sv, iv p4, iv p5, iv lA, iv hA, iv lB, iv hB, iv lC, iv hC, iv vA, iv vB, iv vC, iv oo, iv tt, iv iA, iv iA, iv iB, iv iC, rv b468, rv b482, rv b484, rv b489, jv (-6510615555426900571 : Int64), sv, rv b491, iv 324508639, uv] [(.int 324508639), (.int 2), (.ref b503), (.ref b503)])) rfl rfl (hb hby at_364)
    have W506 := own_wr (vs := []) 2 (by decide) W506'
    have V506 : OView Z n0 h506 (oI b503 [(324508639 : Int32), (324508639 : Int32), (324508639 : Int32), 0, 0, 0, 0] :: oY b482 [(.ref ai483), (.ref aw483), (.ref as483), (.ref am483), (.ref ao483), (.int 2)] :: oB b491 (sj (sj [(-6510615555426900571 : Int64), (-6510615555426900571 : Int64), (-6510615555426900571 : Int64), (-6510615555426900571 : Int64)] oo T0) (oo + (1 : Int32)) T1) :: oI ai483 [iA, iB, iC] :: oI aw483 [0, 0, 1] :: oI as483 [0, ((0 : Int32) + (bt lA hA)), 0] :: oI ao483 [lA, lB, lC] :: oA b484 (si (si (si [(0 : Int32), (0 : Int32), (0 : Int32)] iA vA) iB vB) iC vC) :: oK b489 [T0, T1] :: oK am483 [(msk (bt lA hA)), (msk (bt lB hB)), (msk (bt lC hC))] :: []) := V505.putA 0 rfl W506
    have N506 := Fr.snoc X506 N505 (V505.old 0 rfl)
    have Z506 : n0 ≤ h506.size := by rw [W506.size]; exact Z505
    refine og st506 ?_
    refine og (fun _ => XS.dup X506.here hx rfl (hb hby at_365) rfl rfl) ?_
    refine og (fun _ => XS.iconst X506.here hx rfl (hb hby at_366)) ?_
    refine og (fun _ => XS.iload X506.here hx rfl (hb hby at_367) rfl) ?_
    obtain ⟨cl507, Ar507, S507⟩ := V506.arr 0 rfl
    obtain ⟨T507, h507, X507, e507, W507', st507⟩ := stI X506 hx hZ e506 Ar507 (j := (3 : Int32)) (own_inb S507 3 (by decide) (nb rfl)) (g := (mkF m 369 #[jv p0, sv, jv p1, sv, jv p2, sv, jv p3, sv, iv p4, iv p5, iv lA, iv hA, iv lB, iv hB, iv lC, iv hC, iv vA, iv vB, iv vC, iv oo, iv tt, iv iA, iv iA, iv iB, iv iC, rv b468, rv b482, rv b484, rv b489, jv (-6510615555426900571 : Int64), sv, rv b491, iv 324508639, uv] [(.int 324508639), (.int 3), (.ref b503), (.ref b503)])) rfl rfl (hb hby at_369)
    have W507 := own_wr (vs := []) 3 (by decide) W507'
    have V507 : OView Z n0 h507 (oI b503 [(324508639 : Int32), (324508639 : Int32), (324508639 : Int32), (324508639 : Int32), 0, 0, 0] :: oY b482 [(.ref ai483), (.ref aw483), (.ref as483), (.ref am483), (.ref ao483), (.int 2)] :: oB b491 (sj (sj [(-6510615555426900571 : Int64), (-6510615555426900571 : Int64), (-6510615555426900571 : Int64), (-6510615555426900571 : Int64)] oo T0) (oo + (1 : Int32)) T1) :: oI ai483 [iA, iB, iC] :: oI aw483 [0, 0, 1] :: oI as483 [0, ((0 : Int32) + (bt lA hA)), 0] :: oI ao483 [lA, lB, lC] :: oA b484 (si (si (si [(0 : Int32), (0 : Int32), (0 : Int32)] iA vA) iB vB) iC vC) :: oK b489 [T0, T1] :: oK am483 [(msk (bt lA hA)), (msk (bt lB hB)), (msk (bt lC hC))] :: []) := V506.putA 0 rfl W507
    have N507 := Fr.snoc X507 N506 (V506.old 0 rfl)
    have Z507 : n0 ≤ h507.size := by rw [W507.size]; exact Z506
    refine og st507 ?_
    refine og (fun _ => XS.dup X507.here hx rfl (hb hby at_370) rfl rfl) ?_
    refine og (fun _ => XS.iconst X507.here hx rfl (hb hby at_371)) ?_
    refine og (fun _ => XS.iload X507.here hx rfl (hb hby at_372) rfl) ?_
    obtain ⟨cl508, Ar508, S508⟩ := V507.arr 0 rfl
    obtain ⟨T508, h508, X508, e508, W508', st508⟩ := stI X507 hx hZ e507 Ar508 (j := (4 : Int32)) (own_inb S508 4 (by decide) (nb rfl)) (g := (mkF m 374 #[jv p0, sv, jv p1, sv, jv p2, sv, jv p3, sv, iv p4, iv p5, iv lA, iv hA, iv lB, iv hB, iv lC, iv hC, iv vA, iv vB, iv vC, iv oo, iv tt, iv iA, iv iA, iv iB, iv iC, rv b468, rv b482, rv b484, rv b489, jv (-6510615555426900571 : Int64), sv, rv b491, iv 324508639, uv] [(.int 324508639), (.int 4), (.ref b503), (.ref b503)])) rfl rfl (hb hby at_374)
    have W508 := own_wr (vs := []) 4 (by decide) W508'
    have V508 : OView Z n0 h508 (oI b503 [(324508639 : Int32), (324508639 : Int32), (324508639 : Int32), (324508639 : Int32), (324508639 : Int32), 0, 0] :: oY b482 [(.ref ai483), (.ref aw483), (.ref as483), (.ref am483), (.ref ao483), (.int 2)] :: oB b491 (sj (sj [(-6510615555426900571 : Int64), (-6510615555426900571 : Int64), (-6510615555426900571 : Int64), (-6510615555426900571 : Int64)] oo T0) (oo + (1 : Int32)) T1) :: oI ai483 [iA, iB, iC] :: oI aw483 [0, 0, 1] :: oI as483 [0, ((0 : Int32) + (bt lA hA)), 0] :: oI ao483 [lA, lB, lC] :: oA b484 (si (si (si [(0 : Int32), (0 : Int32), (0 : Int32)] iA vA) iB vB) iC vC) :: oK b489 [T0, T1] :: oK am483 [(msk (bt lA hA)), (msk (bt lB hB)), (msk (bt lC hC))] :: []) := V507.putA 0 rfl W508
    have N508 := Fr.snoc X508 N507 (V507.old 0 rfl)
    have Z508 : n0 ≤ h508.size := by rw [W508.size]; exact Z507
    refine og st508 ?_
    refine og (fun _ => XS.dup X508.here hx rfl (hb hby at_375) rfl rfl) ?_
    refine og (fun _ => XS.iconst X508.here hx rfl (hb hby at_376)) ?_
    refine og (fun _ => XS.iload X508.here hx rfl (hb hby at_377) rfl) ?_
    obtain ⟨cl509, Ar509, S509⟩ := V508.arr 0 rfl
    obtain ⟨T509, h509, X509, e509, W509', st509⟩ := stI X508 hx hZ e508 Ar509 (j := (5 : Int32)) (own_inb S509 5 (by decide) (nb rfl)) (g := (mkF m 379 #[jv p0, sv, jv p1, sv, jv p2, sv, jv p3, sv, iv p4, iv p5, iv lA, iv hA, iv lB, iv hB, iv lC, iv hC, iv vA, iv vB, iv vC, iv oo, iv tt, iv iA, iv iA, iv iB, iv iC, rv b468, rv b482, rv b484, rv b489, jv (-6510615555426900571 : Int64), sv, rv b491, iv 324508639, uv] [(.int 324508639), (.int 5), (.ref b503), (.ref b503)])) rfl rfl (hb hby at_379)
    have W509 := own_wr (vs := []) 5 (by decide) W509'
    have V509 : OView Z n0 h509 (oI b503 [(324508639 : Int32), (324508639 : Int32), (324508639 : Int32), (324508639 : Int32), (324508639 : Int32), (324508639 : Int32), 0] :: oY b482 [(.ref ai483), (.ref aw483), (.ref as483), (.ref am483), (.ref ao483), (.int 2)] :: oB b491 (sj (sj [(-6510615555426900571 : Int64), (-6510615555426900571 : Int64), (-6510615555426900571 : Int64), (-6510615555426900571 : Int64)] oo T0) (oo + (1 : Int32)) T1) :: oI ai483 [iA, iB, iC] :: oI aw483 [0, 0, 1] :: oI as483 [0, ((0 : Int32) + (bt lA hA)), 0] :: oI ao483 [lA, lB, lC] :: oA b484 (si (si (si [(0 : Int32), (0 : Int32), (0 : Int32)] iA vA) iB vB) iC vC) :: oK b489 [T0, T1] :: oK am483 [(msk (bt lA hA)), (msk (bt lB hB)), (msk (bt lC hC))] :: []) := V508.putA 0 rfl W509
    have N509 := Fr.snoc X509 N508 (V508.old 0 rfl)
    have Z509 : n0 ≤ h509.size := by rw [W509.size]; exact Z508
    refine og st509 ?_
    refine og (fun _ => XS.dup X509.here hx rfl (hb hby at_380) rfl rfl) ?_
    refine og (fun _ => XS.bipush X509.here hx rfl (hb hby at_381)) ?_
    refine og (fun _ => XS.iload X509.here hx rfl (hb hby at_383) rfl) ?_
    obtain ⟨cl510, Ar510, S510⟩ := V509.arr 0 rfl
    obtain ⟨T510, h510, X510, e510, W510', st510⟩ := stI X509 hx hZ e509 Ar510 (j := (6 : Int32)) (own_inb S510 6 (by decide) (nb rfl)) (g := (mkF m 385 #[jv p0, sv, jv p1, sv, jv p2, sv, jv p3, sv, iv p4, iv p5, iv lA, iv hA, iv lB, iv hB, iv lC, iv hC, iv vA, iv vB, iv vC, iv oo, iv tt, iv iA, iv iA, iv iB, iv iC, rv b468, rv b482, rv b484, rv b489, jv (-6510615555426900571 : Int64), sv, rv b491, iv 324508639, uv] [(.int 324508639), (.int 6), (.ref b503), (.ref b503)])) rfl rfl (hb hby at_385)
    have W510 := own_wr (vs := []) 6 (by decide) W510'
    have V510 : OView Z n0 h510 (oI b503 [(324508639 : Int32), (324508639 : Int32), (324508639 : Int32), (324508639 : Int32), (324508639 : Int32), (324508639 : Int32), (324508639 : Int32)] :: oY b482 [(.ref ai483), (.ref aw483), (.ref as483), (.ref am483), (.ref ao483), (.int 2)] :: oB b491 (sj (sj [(-6510615555426900571 : Int64), (-6510615555426900571 : Int64), (-6510615555426900571 : Int64), (-6510615555426900571 : Int64)] oo T0) (oo + (1 : Int32)) T1) :: oI ai483 [iA, iB, iC] :: oI aw483 [0, 0, 1] :: oI as483 [0, ((0 : Int32) + (bt lA hA)), 0] :: oI ao483 [lA, lB, lC] :: oA b484 (si (si (si [(0 : Int32), (0 : Int32), (0 : Int32)] iA vA) iB vB) iC vC) :: oK b489 [T0, T1] :: oK am483 [(msk (bt lA hA)), (msk (bt lB hB)), (msk (bt lC hC))] :: []) := V509.putA 0 rfl W510
    have N510 := Fr.snoc X510 N509 (V509.old 0 rfl)
    have Z510 : n0 ≤ h510.size := by rw [W510.size]; exact Z509
    refine og st510 ?_
    have Vs511 : OView Z n0 h510 (oA b503 [(324508639 : Int32), (324508639 : Int32), (324508639 : Int32), (324508639 : Int32), (324508639 : Int32), (324508639 : Int32), (324508639 : Int32)] :: oY b482 [(.ref ai483), (.ref aw483), (.ref as483), (.ref am483), (.ref ao483), (.int 2)] :: oB b491 (sj (sj [(-6510615555426900571 : Int64), (-6510615555426900571 : Int64), (-6510615555426900571 : Int64), (-6510615555426900571 : Int64)] oo T0) (oo + (1 : Int32)) T1) :: oI ai483 [iA, iB, iC] :: oI aw483 [0, 0, 1] :: oI as483 [0, ((0 : Int32) + (bt lA hA)), 0] :: oI ao483 [lA, lB, lC] :: oA b484 (si (si (si [(0 : Int32), (0 : Int32), (0 : Int32)] iA vA) iB vB) iC vC) :: oK b489 [T0, T1] :: oK am483 [(msk (bt lA hA)), (msk (bt lB hB)), (msk (bt lC hC))] :: []) := V510
    show OGets p e below _ (T510.setTop (mkF m 386 #[jv p0, sv, jv p1, sv, jv p2, sv, jv p3, sv, iv p4, iv p5, iv lA, iv hA, iv lB, iv hB, iv lC, iv hC, iv vA, iv vB, iv vC, iv oo, iv tt, iv iA, iv iA, iv iB, iv iC, rv b468, rv b482, rv b484, rv b489, jv (-6510615555426900571 : Int64), sv, rv b491, iv 324508639, uv] [(.ref b503)]))
    refine og (fun _ => XS.astore X510.here hx rfl (hb hby at_386) rfl rfl (l' := #[jv p0, sv, jv p1, sv, jv p2, sv, jv p3, sv, iv p4, iv p5, iv lA, iv hA, iv lB, iv hB, iv lC, iv hC, iv vA, iv vB, iv vC, iv oo, iv tt, iv iA, iv iA, iv iB, iv iC, rv b468, rv b482, rv b484, rv b489, jv (-6510615555426900571 : Int64), sv, rv b491, iv 324508639, rv b503]) rfl) ?_
    refine og (fun _ => XS.aload X510.here hx rfl (hb hby at_388) rfl rfl) ?_
    refine og (fun _ => XS.aload X510.here hx rfl (hb hby at_390) rfl rfl) ?_
    refine og (fun _ => XS.iload X510.here hx rfl (hb hby at_392) rfl) ?_
    refine og (fun _ => XS.aload X510.here hx rfl (hb hby at_394) rfl rfl) ?_
    refine og (fun _ => XS.iload X510.here hx rfl (hb hby at_396) rfl) ?_
    show OGets p e below _ (T510.setTop (mkF m 398 #[jv p0, sv, jv p1, sv, jv p2, sv, jv p3, sv, iv p4, iv p5, iv lA, iv hA, iv lB, iv hB, iv lC, iv hC, iv vA, iv vB, iv vC, iv oo, iv tt, iv iA, iv iA, iv iB, iv iC, rv b468, rv b482, rv b484, rv b489, jv (-6510615555426900571 : Int64), sv, rv b491, iv 324508639, rv b503] [(.int tt), (.ref b503), (.int oo), (.ref b491), (.ref b482)]))
    have V512_ : OView Z _ h510 (oY b482 [(.ref ai483), (.ref aw483), (.ref as483), (.ref am483), (.ref ao483), (.int 2)] :: oI ai483 [iA, iB, iC] :: oI aw483 [0, 0, 1] :: oI as483 [0, ((0 : Int32) + (bt lA hA)), 0] :: oK am483 [(msk (bt lA hA)), (msk (bt lB hB)), (msk (bt lC hC))] :: oI ao483 [lA, lB, lC] :: oB b491 (sj (sj [(-6510615555426900571 : Int64), (-6510615555426900571 : Int64), (-6510615555426900571 : Int64), (-6510615555426900571 : Int64)] oo T0) (oo + (1 : Int32)) T1) :: oA b503 [(324508639 : Int32), (324508639 : Int32), (324508639 : Int32), (324508639 : Int32), (324508639 : Int32), (324508639 : Int32), (324508639 : Int32)] :: oA b484 (si (si (si [(0 : Int32), (0 : Int32), (0 : Int32)] iA vA) iB vB) iC vC) :: oK b489 [T0, T1] :: []) := (((((((Vs511.bring 2 rfl).bring 6 rfl).bring 9 rfl).bring 7 rfl).bring 7 rfl).bring 7 rfl).bring 7 rfl)
    obtain ⟨cq512, kq512, q512a, q512b, q512c⟩ := isOf hZ e510 (V512_.exa 0 rfl)
    obtain ⟨_, _, ⟨T512, L512, k512, n512⟩, -, X512, ⟨Lc512, hQ512, l512, y512, z512⟩, st512⟩ := X510.virtualBack hx (y := (⟨"com/example/inya/inya/StateLayout", "unpack", "([JI[II)V"⟩ : MethodName)) (z := (⟨"com/example/inya/inya/StateLayout", "unpack", "([JI[II)V"⟩ : MethodName)) hown (mvT hZ (ow hw 202 rfl)) (mvT hZ (ow hw 203 rfl)) (notFace_of_selects (args := #[]) (mvT hZ (ow hw 205 rfl))) (mvT hZ (ow hw 205 rfl)) (mvT hZ (ow hw 204 rfl)) (by decide) (backOf (W := 0) (rm_unp l Z a0 hw [] b482 ai483 aw483 as483 am483 ao483 b491 b503 (2 : Int32) iA iB iC (0 : Int32) (0 : Int32) (1 : Int32) (0 : Int32) ((0 : Int32) + (bt lA hA)) (0 : Int32) (msk (bt lA hA)) (msk (bt lB hB)) (msk (bt lC hC)) lA lB lC oo tt (sj (sj [(-6510615555426900571 : Int64), (-6510615555426900571 : Int64), (-6510615555426900571 : Int64), (-6510615555426900571 : Int64)] oo T0) (oo + (1 : Int32)) T1) [(324508639 : Int32), (324508639 : Int32), (324508639 : Int32), (324508639 : Int32), (324508639 : Int32), (324508639 : Int32), (324508639 : Int32)] h510 n0 _ Z510 (by simp only [sj_len, own_l4]) (by simp only [own_l7]) Q4.2.1 Q4.2.1 Q4.2.2 Q7.1 Q7.2.1 Q7.2.2 V512_) hZ (ow hw 206 rfl) (ow hw 106 rfl) (by decide) (by decide)) q512a q512c (g := (mkF m 398 #[jv p0, sv, jv p1, sv, jv p2, sv, jv p3, sv, iv p4, iv p5, iv lA, iv hA, iv lB, iv hB, iv lC, iv hC, iv vA, iv vB, iv vC, iv oo, iv tt, iv iA, iv iA, iv iB, iv iC, rv b468, rv b482, rv b484, rv b489, jv (-6510615555426900571 : Int64), sv, rv b491, iv 324508639, rv b503] [(.int tt), (.ref b503), (.int oo), (.ref b491), (.ref b482)])) rfl (by rw [hml]; rfl) (Steps.refl _) (argsL := [(.ref b491), (.int oo), (.ref b503), (.int tt)]) (rest := []) (lenOf pd_34 rfl) rfl (by show 2 * 0 + _ ≤ _; exact Nat.le_of_eq rfl) (hb hby at_398) (fun _ _ => ⟨rfl, e510, nb rfl, nb rfl⟩)
    dsimp only [Pt.U, Pt.locs, Pt.cells, Pt.slots] at X512 l512 y512 z512 st512 hQ512
    rw [l512, y512, z512] at X512
    obtain ⟨rfl, N512q, V512⟩ := hQ512
    have N512 := Fr.app N510 N512q
    have V512v : OView Z n0 T512.heap (oY b482 [(.ref ai483), (.ref aw483), (.ref as483), (.ref am483), (.ref ao483), (.int 2)] :: oI ai483 [iA, iB, iC] :: oI aw483 [0, 0, 1] :: oI as483 [0, ((0 : Int32) + (bt lA hA)), 0] :: oK am483 [(msk (bt lA hA)), (msk (bt lB hB)), (msk (bt lC hC))] :: oI ao483 [lA, lB, lC] :: oB b491 (sj (sj [(-6510615555426900571 : Int64), (-6510615555426900571 : Int64), (-6510615555426900571 : Int64), (-6510615555426900571 : Int64)] oo T0) (oo + (1 : Int32)) T1) :: oA b503 (si (si (si [(324508639 : Int32), (324508639 : Int32), (324508639 : Int32), (324508639 : Int32), (324508639 : Int32), (324508639 : Int32), (324508639 : Int32)] (tt + iA) (unp lA (gj (sj (sj [(-6510615555426900571 : Int64), (-6510615555426900571 : Int64), (-6510615555426900571 : Int64), (-6510615555426900571 : Int64)] oo T0) (oo + (1 : Int32)) T1) (oo + (0 : Int32))) (0 : Int32) (msk (bt lA hA)))) (tt + iB) (unp lB (gj (sj (sj [(-6510615555426900571 : Int64), (-6510615555426900571 : Int64), (-6510615555426900571 : Int64), (-6510615555426900571 : Int64)] oo T0) (oo + (1 : Int32)) T1) (oo + (0 : Int32))) ((0 : Int32) + (bt lA hA)) (msk (bt lB hB)))) (tt + iC) (unp lC (gj (sj (sj [(-6510615555426900571 : Int64), (-6510615555426900571 : Int64), (-6510615555426900571 : Int64), (-6510615555426900571 : Int64)] oo T0) (oo + (1 : Int32)) T1) (oo + (1 : Int32))) (0 : Int32) (msk (bt lC hC)))) :: oA b484 (si (si (si [(0 : Int32), (0 : Int32), (0 : Int32)] iA vA) iB vB) iC vC) :: oK b489 [T0, T1] :: []) := V512
    obtain ⟨DD, hDD⟩ : ∃ z, z = (si (si (si [(324508639 : Int32), (324508639 : Int32), (324508639 : Int32), (324508639 : Int32), (324508639 : Int32), (324508639 : Int32), (324508639 : Int32)] (tt + iA) (unp lA (gj (sj (sj [(-6510615555426900571 : Int64), (-6510615555426900571 : Int64), (-6510615555426900571 : Int64), (-6510615555426900571 : Int64)] oo T0) (oo + (1 : Int32)) T1) (oo + (0 : Int32))) (0 : Int32) (msk (bt lA hA)))) (tt + iB) (unp lB (gj (sj (sj [(-6510615555426900571 : Int64), (-6510615555426900571 : Int64), (-6510615555426900571 : Int64), (-6510615555426900571 : Int64)] oo T0) (oo + (1 : Int32)) T1) (oo + (0 : Int32))) ((0 : Int32) + (bt lA hA)) (msk (bt lB hB)))) (tt + iC) (unp lC (gj (sj (sj [(-6510615555426900571 : Int64), (-6510615555426900571 : Int64), (-6510615555426900571 : Int64), (-6510615555426900571 : Int64)] oo T0) (oo + (1 : Int32)) T1) (oo + (1 : Int32))) (0 : Int32) (msk (bt lC hC)))) := ⟨_, rfl⟩
    rw [← hDD] at V512v
    have lDD : DD.length = 7 := by rw [hDD]; simp only [si_len, own_l7]
    have Z512 : n0 ≤ T512.heap.size := V512v.big 0 rfl
    refine OGets.after st512 ?_
    have q3 := own_src (x := vA) (y := vB) (z := vC) RR
    rw [q3.1, q3.2.1] at hT0
    rw [q3.2.2] at hT1
    have q4 := own_big1 (f := (-6510615555426900571 : Int64)) (t := T0) (u := T1) hoo
    have q5 := own_law1 nA nB nC rA rB rC T0 T1 hT0 hT1
    rw [q4.1, q4.2, q5.1, q5.2.1, q5.2.2] at hDD
    have hf := own_fin RR htt DD hDD
    refine og (fun _ => XS.aload X512.here hx rfl (hb hby at_401) rfl rfl) ?_
    refine og (fun _ => XS.iconst X512.here hx rfl (hb hby at_403)) ?_
    obtain ⟨cl513, Ar513, S513⟩ := V512v.arr 7 rfl
    refine og (fun _ => X512.iaload hx (j := (0 : Int32)) (v := (.int (gi DD (0 : Int32)))) Ar513.1 (State.isArrayOf_alike hZ.alike Ar513.2.1) Ar513.2.2 (own_sin (n := 7) S513 (by simp only [List.length_map, si_len, sj_len, List.length_replicate, lDD]) (by decide)) (own_sgetI (n := 7) S513 (by simp only [List.length_map, si_len, sj_len, List.length_replicate, lDD]) (by decide)) (g := (mkF m 404 #[jv p0, sv, jv p1, sv, jv p2, sv, jv p3, sv, iv p4, iv p5, iv lA, iv hA, iv lB, iv hB, iv lC, iv hC, iv vA, iv vB, iv vC, iv oo, iv tt, iv iA, iv iA, iv iB, iv iC, rv b468, rv b482, rv b484, rv b489, jv (-6510615555426900571 : Int64), sv, rv b491, iv 324508639, rv b503] [(.int 0), (.ref b503)])) rfl rfl (hb hby at_404) _) ?_
    refine og (fun _ => XS.iconst X512.here hx rfl (hb hby at_405)) ?_
    refine og (fun _ => XS.iload X512.here hx rfl (hb hby at_406) rfl) ?_
    show OGets p e below _ (T512.setTop (mkF m 408 #[jv p0, sv, jv p1, sv, jv p2, sv, jv p3, sv, iv p4, iv p5, iv lA, iv hA, iv lB, iv hB, iv lC, iv hC, iv vA, iv vB, iv vC, iv oo, iv tt, iv iA, iv iA, iv iB, iv iC, rv b468, rv b482, rv b484, rv b489, jv (-6510615555426900571 : Int64), sv, rv b491, iv 324508639, rv b503] [(.int tt), (.int 0), (.int (gi DD (0 : Int32)))]))
    refine og (fun _ => XS.iload X512.here hx rfl (hb hby at_408) rfl) ?_
    refine og (fun _ => XS.iload X512.here hx rfl (hb hby at_410) rfl) ?_
    refine og (fun _ => XS.iload X512.here hx rfl (hb hby at_412) rfl) ?_
    refine og (fun _ => XS.iload X512.here hx rfl (hb hby at_414) rfl) ?_
    refine og (fun _ => XS.iload X512.here hx rfl (hb hby at_416) rfl) ?_
    refine og (fun _ => XS.iload X512.here hx rfl (hb hby at_418) rfl) ?_
    show OGets p e below _ (T512.setTop (mkF m 420 #[jv p0, sv, jv p1, sv, jv p2, sv, jv p3, sv, iv p4, iv p5, iv lA, iv hA, iv lB, iv hB, iv lC, iv hC, iv vA, iv vB, iv vC, iv oo, iv tt, iv iA, iv iA, iv iB, iv iC, rv b468, rv b482, rv b484, rv b489, jv (-6510615555426900571 : Int64), sv, rv b491, iv 324508639, rv b503] [(.int vC), (.int vB), (.int vA), (.int iC), (.int iB), (.int iA), (.int tt), (.int 0), (.int (gi DD (0 : Int32)))]))
    refine og (fun _ => XS.iload X512.here hx rfl (hb hby at_420) rfl) ?_
    obtain ⟨_, _, ⟨T514, L514, k514, n514⟩, -, X514, ⟨Lc514, hQ514, l514, y514, z514⟩, st514⟩ := Jvm.LawKit.callS X512 hx (y := (⟨"com/example/inya/inya/StateLayoutUnpackPinLaw", "exp", "(IIIIIIIII)I"⟩ : MethodName)) hown (mvT hZ (ow hw 207 rfl)) (mvT hZ (ow hw 208 rfl)) (mvT hZ (ow hw 3 rfl)) (mvT hZ (ow hw 209 rfl)) (by decide) (backOf (W := 1) (rm_ex l Z a0 hw [] (0 : Int32) tt iA iB iC vA vB vC (324508639 : Int32) T512.heap n0  Z512 ) hZ (ow hw 209 rfl) (ow hw 3 rfl) (by decide) (by decide)) (g := (mkF m 422 #[jv p0, sv, jv p1, sv, jv p2, sv, jv p3, sv, iv p4, iv p5, iv lA, iv hA, iv lB, iv hB, iv lC, iv hC, iv vA, iv vB, iv vC, iv oo, iv tt, iv iA, iv iA, iv iB, iv iC, rv b468, rv b482, rv b484, rv b489, jv (-6510615555426900571 : Int64), sv, rv b491, iv 324508639, rv b503] [(.int 324508639), (.int vC), (.int vB), (.int vA), (.int iC), (.int iB), (.int iA), (.int tt), (.int 0), (.int (gi DD (0 : Int32)))])) rfl (by rw [hml]; rfl) (argsL := [(.int 0), (.int tt), (.int iA), (.int iB), (.int iC), (.int vA), (.int vB), (.int vC), (.int 324508639)]) (rest := [(.int (gi DD (0 : Int32)))]) (lenOf pd_35 rfl) rfl (by show 2 * 0 + _ ≤ _; exact Nat.le_of_eq rfl) (hb hby at_422) (fun _ _ => ⟨rfl, rfl, nb rfl, nb rfl⟩)
    dsimp only [Pt.U, Pt.locs, Pt.cells, Pt.slots] at X514 l514 y514 z514 st514 hQ514
    rw [l514, y514, z514] at X514
    obtain ⟨rfl, rfl, e514⟩ := hQ514
    have N514 := Fr.app N512 (Fr.nil n0)
    refine og st514 ?_
    refine og (fun _ => XS.icmpNo X514.here hx rfl (hb hby at_425) rfl (teq (hf.1 : (gi DD (0 : Int32)) = (f_ex (0 : Int32) tt iA iB iC vA vB vC (324508639 : Int32)))).2) ?_
    refine og (fun _ => XS.aload X514.here hx rfl (hb hby at_428) rfl rfl) ?_
    refine og (fun _ => XS.iconst X514.here hx rfl (hb hby at_430)) ?_
    obtain ⟨cl516, Ar516, S516⟩ := V512v.arr 7 rfl
    refine og (fun _ => X514.iaload hx (j := (1 : Int32)) (v := (.int (gi DD (1 : Int32)))) (by rw [e514]; exact Ar516.1) (State.isArrayOf_alike hZ.alike Ar516.2.1) Ar516.2.2 (own_sin (n := 7) S516 (by simp only [List.length_map, si_len, sj_len, List.length_replicate, lDD]) (by decide)) (own_sgetI (n := 7) S516 (by simp only [List.length_map, si_len, sj_len, List.length_replicate, lDD]) (by decide)) (g := (mkF m 431 #[jv p0, sv, jv p1, sv, jv p2, sv, jv p3, sv, iv p4, iv p5, iv lA, iv hA, iv lB, iv hB, iv lC, iv hC, iv vA, iv vB, iv vC, iv oo, iv tt, iv iA, iv iA, iv iB, iv iC, rv b468, rv b482, rv b484, rv b489, jv (-6510615555426900571 : Int64), sv, rv b491, iv 324508639, rv b503] [(.int 1), (.ref b503)])) rfl rfl (hb hby at_431) _) ?_
    refine og (fun _ => XS.iconst X514.here hx rfl (hb hby at_432)) ?_
    show OGets p e below _ (T514.setTop (mkF m 433 #[jv p0, sv, jv p1, sv, jv p2, sv, jv p3, sv, iv p4, iv p5, iv lA, iv hA, iv lB, iv hB, iv lC, iv hC, iv vA, iv vB, iv vC, iv oo, iv tt, iv iA, iv iA, iv iB, iv iC, rv b468, rv b482, rv b484, rv b489, jv (-6510615555426900571 : Int64), sv, rv b491, iv 324508639, rv b503] [(.int 1), (.int (gi DD (1 : Int32)))]))
    refine og (fun _ => XS.iload X514.here hx rfl (hb hby at_433) rfl) ?_
    refine og (fun _ => XS.iload X514.here hx rfl (hb hby at_435) rfl) ?_
    refine og (fun _ => XS.iload X514.here hx rfl (hb hby at_437) rfl) ?_
    refine og (fun _ => XS.iload X514.here hx rfl (hb hby at_439) rfl) ?_
    refine og (fun _ => XS.iload X514.here hx rfl (hb hby at_441) rfl) ?_
    refine og (fun _ => XS.iload X514.here hx rfl (hb hby at_443) rfl) ?_
    show OGets p e below _ (T514.setTop (mkF m 445 #[jv p0, sv, jv p1, sv, jv p2, sv, jv p3, sv, iv p4, iv p5, iv lA, iv hA, iv lB, iv hB, iv lC, iv hC, iv vA, iv vB, iv vC, iv oo, iv tt, iv iA, iv iA, iv iB, iv iC, rv b468, rv b482, rv b484, rv b489, jv (-6510615555426900571 : Int64), sv, rv b491, iv 324508639, rv b503] [(.int vB), (.int vA), (.int iC), (.int iB), (.int iA), (.int tt), (.int 1), (.int (gi DD (1 : Int32)))]))
    refine og (fun _ => XS.iload X514.here hx rfl (hb hby at_445) rfl) ?_
    refine og (fun _ => XS.iload X514.here hx rfl (hb hby at_447) rfl) ?_
    obtain ⟨_, _, ⟨T517, L517, k517, n517⟩, -, X517, ⟨Lc517, hQ517, l517, y517, z517⟩, st517⟩ := Jvm.LawKit.callS X514 hx (y := (⟨"com/example/inya/inya/StateLayoutUnpackPinLaw", "exp", "(IIIIIIIII)I"⟩ : MethodName)) hown (mvT hZ (ow hw 207 rfl)) (mvT hZ (ow hw 208 rfl)) (mvT hZ (ow hw 3 rfl)) (mvT hZ (ow hw 209 rfl)) (by decide) (backOf (W := 1) (rm_ex l Z a0 hw [] (1 : Int32) tt iA iB iC vA vB vC (324508639 : Int32) T512.heap n0  Z512 ) hZ (ow hw 209 rfl) (ow hw 3 rfl) (by decide) (by decide)) (g := (mkF m 449 #[jv p0, sv, jv p1, sv, jv p2, sv, jv p3, sv, iv p4, iv p5, iv lA, iv hA, iv lB, iv hB, iv lC, iv hC, iv vA, iv vB, iv vC, iv oo, iv tt, iv iA, iv iA, iv iB, iv iC, rv b468, rv b482, rv b484, rv b489, jv (-6510615555426900571 : Int64), sv, rv b491, iv 324508639, rv b503] [(.int 324508639), (.int vC), (.int vB), (.int vA), (.int iC), (.int iB), (.int iA), (.int tt), (.int 1), (.int (gi DD (1 : Int32)))])) rfl (by rw [hml]; rfl) (argsL := [(.int 1), (.int tt), (.int iA), (.int iB), (.int iC), (.int vA), (.int vB), (.int vC), (.int 324508639)]) (rest := [(.int (gi DD (1 : Int32)))]) (lenOf pd_35 rfl) rfl (by show 2 * 0 + _ ≤ _; exact Nat.le_of_eq rfl) (hb hby at_449) (fun _ _ => ⟨rfl, e514, nb rfl, nb rfl⟩)
    dsimp only [Pt.U, Pt.locs, Pt.cells, Pt.slots] at X517 l517 y517 z517 st517 hQ517
    rw [l517, y517, z517] at X517
    obtain ⟨rfl, rfl, e517⟩ := hQ517
    have N517 := Fr.app N514 (Fr.nil n0)
    refine og st517 ?_
    refine og (fun _ => XS.icmpNo X517.here hx rfl (hb hby at_452) rfl (teq (hf.2.1 : (gi DD (1 : Int32)) = (f_ex (1 : Int32) tt iA iB iC vA vB vC (324508639 : Int32)))).2) ?_
    refine og (fun _ => XS.aload X517.here hx rfl (hb hby at_455) rfl rfl) ?_
    refine og (fun _ => XS.iconst X517.here hx rfl (hb hby at_457)) ?_
    obtain ⟨cl519, Ar519, S519⟩ := V512v.arr 7 rfl
    refine og (fun _ => X517.iaload hx (j := (2 : Int32)) (v := (.int (gi DD (2 : Int32)))) (by rw [e517]; exact Ar519.1) (State.isArrayOf_alike hZ.alike Ar519.2.1) Ar519.2.2 (own_sin (n := 7) S519 (by simp only [List.length_map, si_len, sj_len, List.length_replicate, lDD]) (by decide)) (own_sgetI (n := 7) S519 (by simp only [List.length_map, si_len, sj_len, List.length_replicate, lDD]) (by decide)) (g := (mkF m 458 #[jv p0, sv, jv p1, sv, jv p2, sv, jv p3, sv, iv p4, iv p5, iv lA, iv hA, iv lB, iv hB, iv lC, iv hC, iv vA, iv vB, iv vC, iv oo, iv tt, iv iA, iv iA, iv iB, iv iC, rv b468, rv b482, rv b484, rv b489, jv (-6510615555426900571 : Int64), sv, rv b491, iv 324508639, rv b503] [(.int 2), (.ref b503)])) rfl rfl (hb hby at_458) _) ?_
    refine og (fun _ => XS.iconst X517.here hx rfl (hb hby at_459)) ?_
    show OGets p e below _ (T517.setTop (mkF m 460 #[jv p0, sv, jv p1, sv, jv p2, sv, jv p3, sv, iv p4, iv p5, iv lA, iv hA, iv lB, iv hB, iv lC, iv hC, iv vA, iv vB, iv vC, iv oo, iv tt, iv iA, iv iA, iv iB, iv iC, rv b468, rv b482, rv b484, rv b489, jv (-6510615555426900571 : Int64), sv, rv b491, iv 324508639, rv b503] [(.int 2), (.int (gi DD (2 : Int32)))]))
    refine og (fun _ => XS.iload X517.here hx rfl (hb hby at_460) rfl) ?_
    refine og (fun _ => XS.iload X517.here hx rfl (hb hby at_462) rfl) ?_
    refine og (fun _ => XS.iload X517.here hx rfl (hb hby at_464) rfl) ?_
    refine og (fun _ => XS.iload X517.here hx rfl (hb hby at_466) rfl) ?_
    refine og (fun _ => XS.iload X517.here hx rfl (hb hby at_468) rfl) ?_
    refine og (fun _ => XS.iload X517.here hx rfl (hb hby at_470) rfl) ?_
    show OGets p e below _ (T517.setTop (mkF m 472 #[jv p0, sv, jv p1, sv, jv p2, sv, jv p3, sv, iv p4, iv p5, iv lA, iv hA, iv lB, iv hB, iv lC, iv hC, iv vA, iv vB, iv vC, iv oo, iv tt, iv iA, iv iA, iv iB, iv iC, rv b468, rv b482, rv b484, rv b489, jv (-6510615555426900571 : Int64), sv, rv b491, iv 324508639, rv b503] [(.int vB), (.int vA), (.int iC), (.int iB), (.int iA), (.int tt), (.int 2), (.int (gi DD (2 : Int32)))]))
    refine og (fun _ => XS.iload X517.here hx rfl (hb hby at_472) rfl) ?_
    refine og (fun _ => XS.iload X517.here hx rfl (hb hby at_474) rfl) ?_
    obtain ⟨_, _, ⟨T520, L520, k520, n520⟩, -, X520, ⟨Lc520, hQ520, l520, y520, z520⟩, st520⟩ := Jvm.LawKit.callS X517 hx (y := (⟨"com/example/inya/inya/StateLayoutUnpackPinLaw", "exp", "(IIIIIIIII)I"⟩ : MethodName)) hown (mvT hZ (ow hw 207 rfl)) (mvT hZ (ow hw 208 rfl)) (mvT hZ (ow hw 3 rfl)) (mvT hZ (ow hw 209 rfl)) (by decide) (backOf (W := 1) (rm_ex l Z a0 hw [] (2 : Int32) tt iA iB iC vA vB vC (324508639 : Int32) T512.heap n0  Z512 ) hZ (ow hw 209 rfl) (ow hw 3 rfl) (by decide) (by decide)) (g := (mkF m 476 #[jv p0, sv, jv p1, sv, jv p2, sv, jv p3, sv, iv p4, iv p5, iv lA, iv hA, iv lB, iv hB, iv lC, iv hC, iv vA, iv vB, iv vC, iv oo, iv tt, iv iA, iv iA, iv iB, iv iC, rv b468, rv b482, rv b484, rv b489, jv (-6510615555426900571 : Int64), sv, rv b491, iv 324508639, rv b503] [(.int 324508639), (.int vC), (.int vB), (.int vA), (.int iC), (.int iB), (.int iA), (.int tt), (.int 2), (.int (gi DD (2 : Int32)))])) rfl (by rw [hml]; rfl) (argsL := [(.int 2), (.int tt), (.int iA), (.int iB), (.int iC), (.int vA), (.int vB), (.int vC), (.int 324508639)]) (rest := [(.int (gi DD (2 : Int32)))]) (lenOf pd_35 rfl) rfl (by show 2 * 0 + _ ≤ _; exact Nat.le_of_eq rfl) (hb hby at_476) (fun _ _ => ⟨rfl, e517, nb rfl, nb rfl⟩)
    dsimp only [Pt.U, Pt.locs, Pt.cells, Pt.slots] at X520 l520 y520 z520 st520 hQ520
    rw [l520, y520, z520] at X520
    obtain ⟨rfl, rfl, e520⟩ := hQ520
    have N520 := Fr.app N517 (Fr.nil n0)
    refine og st520 ?_
    refine og (fun _ => XS.icmpNo X520.here hx rfl (hb hby at_479) rfl (teq (hf.2.2.1 : (gi DD (2 : Int32)) = (f_ex (2 : Int32) tt iA iB iC vA vB vC (324508639 : Int32)))).2) ?_
    refine og (fun _ => XS.aload X520.here hx rfl (hb hby at_482) rfl rfl) ?_
    refine og (fun _ => XS.iconst X520.here hx rfl (hb hby at_484)) ?_
    obtain ⟨cl522, Ar522, S522⟩ := V512v.arr 7 rfl
    refine og (fun _ => X520.iaload hx (j := (3 : Int32)) (v := (.int (gi DD (3 : Int32)))) (by rw [e520]; exact Ar522.1) (State.isArrayOf_alike hZ.alike Ar522.2.1) Ar522.2.2 (own_sin (n := 7) S522 (by simp only [List.length_map, si_len, sj_len, List.length_replicate, lDD]) (by decide)) (own_sgetI (n := 7) S522 (by simp only [List.length_map, si_len, sj_len, List.length_replicate, lDD]) (by decide)) (g := (mkF m 485 #[jv p0, sv, jv p1, sv, jv p2, sv, jv p3, sv, iv p4, iv p5, iv lA, iv hA, iv lB, iv hB, iv lC, iv hC, iv vA, iv vB, iv vC, iv oo, iv tt, iv iA, iv iA, iv iB, iv iC, rv b468, rv b482, rv b484, rv b489, jv (-6510615555426900571 : Int64), sv, rv b491, iv 324508639, rv b503] [(.int 3), (.ref b503)])) rfl rfl (hb hby at_485) _) ?_
    refine og (fun _ => XS.iconst X520.here hx rfl (hb hby at_486)) ?_
    show OGets p e below _ (T520.setTop (mkF m 487 #[jv p0, sv, jv p1, sv, jv p2, sv, jv p3, sv, iv p4, iv p5, iv lA, iv hA, iv lB, iv hB, iv lC, iv hC, iv vA, iv vB, iv vC, iv oo, iv tt, iv iA, iv iA, iv iB, iv iC, rv b468, rv b482, rv b484, rv b489, jv (-6510615555426900571 : Int64), sv, rv b491, iv 324508639, rv b503] [(.int 3), (.int (gi DD (3 : Int32)))]))
    refine og (fun _ => XS.iload X520.here hx rfl (hb hby at_487) rfl) ?_
    refine og (fun _ => XS.iload X520.here hx rfl (hb hby at_489) rfl) ?_
    refine og (fun _ => XS.iload X520.here hx rfl (hb hby at_491) rfl) ?_
    refine og (fun _ => XS.iload X520.here hx rfl (hb hby at_493) rfl) ?_
    refine og (fun _ => XS.iload X520.here hx rfl (hb hby at_495) rfl) ?_
    refine og (fun _ => XS.iload X520.here hx rfl (hb hby at_497) rfl) ?_
    show OGets p e below _ (T520.setTop (mkF m 499 #[jv p0, sv, jv p1, sv, jv p2, sv, jv p3, sv, iv p4, iv p5, iv lA, iv hA, iv lB, iv hB, iv lC, iv hC, iv vA, iv vB, iv vC, iv oo, iv tt, iv iA, iv iA, iv iB, iv iC, rv b468, rv b482, rv b484, rv b489, jv (-6510615555426900571 : Int64), sv, rv b491, iv 324508639, rv b503] [(.int vB), (.int vA), (.int iC), (.int iB), (.int iA), (.int tt), (.int 3), (.int (gi DD (3 : Int32)))]))
    refine og (fun _ => XS.iload X520.here hx rfl (hb hby at_499) rfl) ?_
    refine og (fun _ => XS.iload X520.here hx rfl (hb hby at_501) rfl) ?_
    obtain ⟨_, _, ⟨T523, L523, k523, n523⟩, -, X523, ⟨Lc523, hQ523, l523, y523, z523⟩, st523⟩ := Jvm.LawKit.callS X520 hx (y := (⟨"com/example/inya/inya/StateLayoutUnpackPinLaw", "exp", "(IIIIIIIII)I"⟩ : MethodName)) hown (mvT hZ (ow hw 207 rfl)) (mvT hZ (ow hw 208 rfl)) (mvT hZ (ow hw 3 rfl)) (mvT hZ (ow hw 209 rfl)) (by decide) (backOf (W := 1) (rm_ex l Z a0 hw [] (3 : Int32) tt iA iB iC vA vB vC (324508639 : Int32) T512.heap n0  Z512 ) hZ (ow hw 209 rfl) (ow hw 3 rfl) (by decide) (by decide)) (g := (mkF m 503 #[jv p0, sv, jv p1, sv, jv p2, sv, jv p3, sv, iv p4, iv p5, iv lA, iv hA, iv lB, iv hB, iv lC, iv hC, iv vA, iv vB, iv vC, iv oo, iv tt, iv iA, iv iA, iv iB, iv iC, rv b468, rv b482, rv b484, rv b489, jv (-6510615555426900571 : Int64), sv, rv b491, iv 324508639, rv b503] [(.int 324508639), (.int vC), (.int vB), (.int vA), (.int iC), (.int iB), (.int iA), (.int tt), (.int 3), (.int (gi DD (3 : Int32)))])) rfl (by rw [hml]; rfl) (argsL := [(.int 3), (.int tt), (.int iA), (.int iB), (.int iC), (.int vA), (.int vB), (.int vC), (.int 324508639)]) (rest := [(.int (gi DD (3 : Int32)))]) (lenOf pd_35 rfl) rfl (by show 2 * 0 + _ ≤ _; exact Nat.le_of_eq rfl) (hb hby at_503) (fun _ _ => ⟨rfl, e520, nb rfl, nb rfl⟩)
    dsimp only [Pt.U, Pt.locs, Pt.cells, Pt.slots] at X523 l523 y523 z523 st523 hQ523
    rw [l523, y523, z523] at X523
    obtain ⟨rfl, rfl, e523⟩ := hQ523
    have N523 := Fr.app N520 (Fr.nil n0)
    refine og st523 ?_
    refine og (fun _ => XS.icmpNo X523.here hx rfl (hb hby at_506) rfl (teq (hf.2.2.2.1 : (gi DD (3 : Int32)) = (f_ex (3 : Int32) tt iA iB iC vA vB vC (324508639 : Int32)))).2) ?_
    refine og (fun _ => XS.aload X523.here hx rfl (hb hby at_509) rfl rfl) ?_
    refine og (fun _ => XS.iconst X523.here hx rfl (hb hby at_511)) ?_
    obtain ⟨cl525, Ar525, S525⟩ := V512v.arr 7 rfl
    refine og (fun _ => X523.iaload hx (j := (4 : Int32)) (v := (.int (gi DD (4 : Int32)))) (by rw [e523]; exact Ar525.1) (State.isArrayOf_alike hZ.alike Ar525.2.1) Ar525.2.2 (own_sin (n := 7) S525 (by simp only [List.length_map, si_len, sj_len, List.length_replicate, lDD]) (by decide)) (own_sgetI (n := 7) S525 (by simp only [List.length_map, si_len, sj_len, List.length_replicate, lDD]) (by decide)) (g := (mkF m 512 #[jv p0, sv, jv p1, sv, jv p2, sv, jv p3, sv, iv p4, iv p5, iv lA, iv hA, iv lB, iv hB, iv lC, iv hC, iv vA, iv vB, iv vC, iv oo, iv tt, iv iA, iv iA, iv iB, iv iC, rv b468, rv b482, rv b484, rv b489, jv (-6510615555426900571 : Int64), sv, rv b491, iv 324508639, rv b503] [(.int 4), (.ref b503)])) rfl rfl (hb hby at_512) _) ?_
    refine og (fun _ => XS.iconst X523.here hx rfl (hb hby at_513)) ?_
    show OGets p e below _ (T523.setTop (mkF m 514 #[jv p0, sv, jv p1, sv, jv p2, sv, jv p3, sv, iv p4, iv p5, iv lA, iv hA, iv lB, iv hB, iv lC, iv hC, iv vA, iv vB, iv vC, iv oo, iv tt, iv iA, iv iA, iv iB, iv iC, rv b468, rv b482, rv b484, rv b489, jv (-6510615555426900571 : Int64), sv, rv b491, iv 324508639, rv b503] [(.int 4), (.int (gi DD (4 : Int32)))]))
    refine og (fun _ => XS.iload X523.here hx rfl (hb hby at_514) rfl) ?_
    refine og (fun _ => XS.iload X523.here hx rfl (hb hby at_516) rfl) ?_
    refine og (fun _ => XS.iload X523.here hx rfl (hb hby at_518) rfl) ?_
    refine og (fun _ => XS.iload X523.here hx rfl (hb hby at_520) rfl) ?_
    refine og (fun _ => XS.iload X523.here hx rfl (hb hby at_522) rfl) ?_
    refine og (fun _ => XS.iload X523.here hx rfl (hb hby at_524) rfl) ?_
    show OGets p e below _ (T523.setTop (mkF m 526 #[jv p0, sv, jv p1, sv, jv p2, sv, jv p3, sv, iv p4, iv p5, iv lA, iv hA, iv lB, iv hB, iv lC, iv hC, iv vA, iv vB, iv vC, iv oo, iv tt, iv iA, iv iA, iv iB, iv iC, rv b468, rv b482, rv b484, rv b489, jv (-6510615555426900571 : Int64), sv, rv b491, iv 324508639, rv b503] [(.int vB), (.int vA), (.int iC), (.int iB), (.int iA), (.int tt), (.int 4), (.int (gi DD (4 : Int32)))]))
    refine og (fun _ => XS.iload X523.here hx rfl (hb hby at_526) rfl) ?_
    refine og (fun _ => XS.iload X523.here hx rfl (hb hby at_528) rfl) ?_
    obtain ⟨_, _, ⟨T526, L526, k526, n526⟩, -, X526, ⟨Lc526, hQ526, l526, y526, z526⟩, st526⟩ := Jvm.LawKit.callS X523 hx (y := (⟨"com/example/inya/inya/StateLayoutUnpackPinLaw", "exp", "(IIIIIIIII)I"⟩ : MethodName)) hown (mvT hZ (ow hw 207 rfl)) (mvT hZ (ow hw 208 rfl)) (mvT hZ (ow hw 3 rfl)) (mvT hZ (ow hw 209 rfl)) (by decide) (backOf (W := 1) (rm_ex l Z a0 hw [] (4 : Int32) tt iA iB iC vA vB vC (324508639 : Int32) T512.heap n0  Z512 ) hZ (ow hw 209 rfl) (ow hw 3 rfl) (by decide) (by decide)) (g := (mkF m 530 #[jv p0, sv, jv p1, sv, jv p2, sv, jv p3, sv, iv p4, iv p5, iv lA, iv hA, iv lB, iv hB, iv lC, iv hC, iv vA, iv vB, iv vC, iv oo, iv tt, iv iA, iv iA, iv iB, iv iC, rv b468, rv b482, rv b484, rv b489, jv (-6510615555426900571 : Int64), sv, rv b491, iv 324508639, rv b503] [(.int 324508639), (.int vC), (.int vB), (.int vA), (.int iC), (.int iB), (.int iA), (.int tt), (.int 4), (.int (gi DD (4 : Int32)))])) rfl (by rw [hml]; rfl) (argsL := [(.int 4), (.int tt), (.int iA), (.int iB), (.int iC), (.int vA), (.int vB), (.int vC), (.int 324508639)]) (rest := [(.int (gi DD (4 : Int32)))]) (lenOf pd_35 rfl) rfl (by show 2 * 0 + _ ≤ _; exact Nat.le_of_eq rfl) (hb hby at_530) (fun _ _ => ⟨rfl, e523, nb rfl, nb rfl⟩)
    dsimp only [Pt.U, Pt.locs, Pt.cells, Pt.slots] at X526 l526 y526 z526 st526 hQ526
    rw [l526, y526, z526] at X526
    obtain ⟨rfl, rfl, e526⟩ := hQ526
    have N526 := Fr.app N523 (Fr.nil n0)
    refine og st526 ?_
    refine og (fun _ => XS.icmpNo X526.here hx rfl (hb hby at_533) rfl (teq (hf.2.2.2.2.1 : (gi DD (4 : Int32)) = (f_ex (4 : Int32) tt iA iB iC vA vB vC (324508639 : Int32)))).2) ?_
    refine og (fun _ => XS.aload X526.here hx rfl (hb hby at_536) rfl rfl) ?_
    refine og (fun _ => XS.iconst X526.here hx rfl (hb hby at_538)) ?_
    obtain ⟨cl528, Ar528, S528⟩ := V512v.arr 7 rfl
    refine og (fun _ => X526.iaload hx (j := (5 : Int32)) (v := (.int (gi DD (5 : Int32)))) (by rw [e526]; exact Ar528.1) (State.isArrayOf_alike hZ.alike Ar528.2.1) Ar528.2.2 (own_sin (n := 7) S528 (by simp only [List.length_map, si_len, sj_len, List.length_replicate, lDD]) (by decide)) (own_sgetI (n := 7) S528 (by simp only [List.length_map, si_len, sj_len, List.length_replicate, lDD]) (by decide)) (g := (mkF m 539 #[jv p0, sv, jv p1, sv, jv p2, sv, jv p3, sv, iv p4, iv p5, iv lA, iv hA, iv lB, iv hB, iv lC, iv hC, iv vA, iv vB, iv vC, iv oo, iv tt, iv iA, iv iA, iv iB, iv iC, rv b468, rv b482, rv b484, rv b489, jv (-6510615555426900571 : Int64), sv, rv b491, iv 324508639, rv b503] [(.int 5), (.ref b503)])) rfl rfl (hb hby at_539) _) ?_
    refine og (fun _ => XS.iconst X526.here hx rfl (hb hby at_540)) ?_
    show OGets p e below _ (T526.setTop (mkF m 541 #[jv p0, sv, jv p1, sv, jv p2, sv, jv p3, sv, iv p4, iv p5, iv lA, iv hA, iv lB, iv hB, iv lC, iv hC, iv vA, iv vB, iv vC, iv oo, iv tt, iv iA, iv iA, iv iB, iv iC, rv b468, rv b482, rv b484, rv b489, jv (-6510615555426900571 : Int64), sv, rv b491, iv 324508639, rv b503] [(.int 5), (.int (gi DD (5 : Int32)))]))
    refine og (fun _ => XS.iload X526.here hx rfl (hb hby at_541) rfl) ?_
    refine og (fun _ => XS.iload X526.here hx rfl (hb hby at_543) rfl) ?_
    refine og (fun _ => XS.iload X526.here hx rfl (hb hby at_545) rfl) ?_
    refine og (fun _ => XS.iload X526.here hx rfl (hb hby at_547) rfl) ?_
    refine og (fun _ => XS.iload X526.here hx rfl (hb hby at_549) rfl) ?_
    refine og (fun _ => XS.iload X526.here hx rfl (hb hby at_551) rfl) ?_
    show OGets p e below _ (T526.setTop (mkF m 553 #[jv p0, sv, jv p1, sv, jv p2, sv, jv p3, sv, iv p4, iv p5, iv lA, iv hA, iv lB, iv hB, iv lC, iv hC, iv vA, iv vB, iv vC, iv oo, iv tt, iv iA, iv iA, iv iB, iv iC, rv b468, rv b482, rv b484, rv b489, jv (-6510615555426900571 : Int64), sv, rv b491, iv 324508639, rv b503] [(.int vB), (.int vA), (.int iC), (.int iB), (.int iA), (.int tt), (.int 5), (.int (gi DD (5 : Int32)))]))
    refine og (fun _ => XS.iload X526.here hx rfl (hb hby at_553) rfl) ?_
    refine og (fun _ => XS.iload X526.here hx rfl (hb hby at_555) rfl) ?_
    obtain ⟨_, _, ⟨T529, L529, k529, n529⟩, -, X529, ⟨Lc529, hQ529, l529, y529, z529⟩, st529⟩ := Jvm.LawKit.callS X526 hx (y := (⟨"com/example/inya/inya/StateLayoutUnpackPinLaw", "exp", "(IIIIIIIII)I"⟩ : MethodName)) hown (mvT hZ (ow hw 207 rfl)) (mvT hZ (ow hw 208 rfl)) (mvT hZ (ow hw 3 rfl)) (mvT hZ (ow hw 209 rfl)) (by decide) (backOf (W := 1) (rm_ex l Z a0 hw [] (5 : Int32) tt iA iB iC vA vB vC (324508639 : Int32) T512.heap n0  Z512 ) hZ (ow hw 209 rfl) (ow hw 3 rfl) (by decide) (by decide)) (g := (mkF m 557 #[jv p0, sv, jv p1, sv, jv p2, sv, jv p3, sv, iv p4, iv p5, iv lA, iv hA, iv lB, iv hB, iv lC, iv hC, iv vA, iv vB, iv vC, iv oo, iv tt, iv iA, iv iA, iv iB, iv iC, rv b468, rv b482, rv b484, rv b489, jv (-6510615555426900571 : Int64), sv, rv b491, iv 324508639, rv b503] [(.int 324508639), (.int vC), (.int vB), (.int vA), (.int iC), (.int iB), (.int iA), (.int tt), (.int 5), (.int (gi DD (5 : Int32)))])) rfl (by rw [hml]; rfl) (argsL := [(.int 5), (.int tt), (.int iA), (.int iB), (.int iC), (.int vA), (.int vB), (.int vC), (.int 324508639)]) (rest := [(.int (gi DD (5 : Int32)))]) (lenOf pd_35 rfl) rfl (by show 2 * 0 + _ ≤ _; exact Nat.le_of_eq rfl) (hb hby at_557) (fun _ _ => ⟨rfl, e526, nb rfl, nb rfl⟩)
    dsimp only [Pt.U, Pt.locs, Pt.cells, Pt.slots] at X529 l529 y529 z529 st529 hQ529
    rw [l529, y529, z529] at X529
    obtain ⟨rfl, rfl, e529⟩ := hQ529
    have N529 := Fr.app N526 (Fr.nil n0)
    refine og st529 ?_
    refine og (fun _ => XS.icmpNo X529.here hx rfl (hb hby at_560) rfl (teq (hf.2.2.2.2.2.1 : (gi DD (5 : Int32)) = (f_ex (5 : Int32) tt iA iB iC vA vB vC (324508639 : Int32)))).2) ?_
    refine og (fun _ => XS.aload X529.here hx rfl (hb hby at_563) rfl rfl) ?_
    refine og (fun _ => XS.bipush X529.here hx rfl (hb hby at_565)) ?_
    obtain ⟨cl531, Ar531, S531⟩ := V512v.arr 7 rfl
    refine og (fun _ => X529.iaload hx (j := (6 : Int32)) (v := (.int (gi DD (6 : Int32)))) (by rw [e529]; exact Ar531.1) (State.isArrayOf_alike hZ.alike Ar531.2.1) Ar531.2.2 (own_sin (n := 7) S531 (by simp only [List.length_map, si_len, sj_len, List.length_replicate, lDD]) (by decide)) (own_sgetI (n := 7) S531 (by simp only [List.length_map, si_len, sj_len, List.length_replicate, lDD]) (by decide)) (g := (mkF m 567 #[jv p0, sv, jv p1, sv, jv p2, sv, jv p3, sv, iv p4, iv p5, iv lA, iv hA, iv lB, iv hB, iv lC, iv hC, iv vA, iv vB, iv vC, iv oo, iv tt, iv iA, iv iA, iv iB, iv iC, rv b468, rv b482, rv b484, rv b489, jv (-6510615555426900571 : Int64), sv, rv b491, iv 324508639, rv b503] [(.int 6), (.ref b503)])) rfl rfl (hb hby at_567) _) ?_
    refine og (fun _ => XS.bipush X529.here hx rfl (hb hby at_568)) ?_
    show OGets p e below _ (T529.setTop (mkF m 570 #[jv p0, sv, jv p1, sv, jv p2, sv, jv p3, sv, iv p4, iv p5, iv lA, iv hA, iv lB, iv hB, iv lC, iv hC, iv vA, iv vB, iv vC, iv oo, iv tt, iv iA, iv iA, iv iB, iv iC, rv b468, rv b482, rv b484, rv b489, jv (-6510615555426900571 : Int64), sv, rv b491, iv 324508639, rv b503] [(.int 6), (.int (gi DD (6 : Int32)))]))
    refine og (fun _ => XS.iload X529.here hx rfl (hb hby at_570) rfl) ?_
    refine og (fun _ => XS.iload X529.here hx rfl (hb hby at_572) rfl) ?_
    refine og (fun _ => XS.iload X529.here hx rfl (hb hby at_574) rfl) ?_
    refine og (fun _ => XS.iload X529.here hx rfl (hb hby at_576) rfl) ?_
    refine og (fun _ => XS.iload X529.here hx rfl (hb hby at_578) rfl) ?_
    refine og (fun _ => XS.iload X529.here hx rfl (hb hby at_580) rfl) ?_
    show OGets p e below _ (T529.setTop (mkF m 582 #[jv p0, sv, jv p1, sv, jv p2, sv, jv p3, sv, iv p4, iv p5, iv lA, iv hA, iv lB, iv hB, iv lC, iv hC, iv vA, iv vB, iv vC, iv oo, iv tt, iv iA, iv iA, iv iB, iv iC, rv b468, rv b482, rv b484, rv b489, jv (-6510615555426900571 : Int64), sv, rv b491, iv 324508639, rv b503] [(.int vB), (.int vA), (.int iC), (.int iB), (.int iA), (.int tt), (.int 6), (.int (gi DD (6 : Int32)))]))
    refine og (fun _ => XS.iload X529.here hx rfl (hb hby at_582) rfl) ?_
    refine og (fun _ => XS.iload X529.here hx rfl (hb hby at_584) rfl) ?_
    obtain ⟨_, _, ⟨T532, L532, k532, n532⟩, -, X532, ⟨Lc532, hQ532, l532, y532, z532⟩, st532⟩ := Jvm.LawKit.callS X529 hx (y := (⟨"com/example/inya/inya/StateLayoutUnpackPinLaw", "exp", "(IIIIIIIII)I"⟩ : MethodName)) hown (mvT hZ (ow hw 207 rfl)) (mvT hZ (ow hw 208 rfl)) (mvT hZ (ow hw 3 rfl)) (mvT hZ (ow hw 209 rfl)) (by decide) (backOf (W := 1) (rm_ex l Z a0 hw [] (6 : Int32) tt iA iB iC vA vB vC (324508639 : Int32) T512.heap n0  Z512 ) hZ (ow hw 209 rfl) (ow hw 3 rfl) (by decide) (by decide)) (g := (mkF m 586 #[jv p0, sv, jv p1, sv, jv p2, sv, jv p3, sv, iv p4, iv p5, iv lA, iv hA, iv lB, iv hB, iv lC, iv hC, iv vA, iv vB, iv vC, iv oo, iv tt, iv iA, iv iA, iv iB, iv iC, rv b468, rv b482, rv b484, rv b489, jv (-6510615555426900571 : Int64), sv, rv b491, iv 324508639, rv b503] [(.int 324508639), (.int vC), (.int vB), (.int vA), (.int iC), (.int iB), (.int iA), (.int tt), (.int 6), (.int (gi DD (6 : Int32)))])) rfl (by rw [hml]; rfl) (argsL := [(.int 6), (.int tt), (.int iA), (.int iB), (.int iC), (.int vA), (.int vB), (.int vC), (.int 324508639)]) (rest := [(.int (gi DD (6 : Int32)))]) (lenOf pd_35 rfl) rfl (by show 2 * 0 + _ ≤ _; exact Nat.le_of_eq rfl) (hb hby at_586) (fun _ _ => ⟨rfl, e529, nb rfl, nb rfl⟩)
    dsimp only [Pt.U, Pt.locs, Pt.cells, Pt.slots] at X532 l532 y532 z532 st532 hQ532
    rw [l532, y532, z532] at X532
    obtain ⟨rfl, rfl, e532⟩ := hQ532
    have N532 := Fr.app N529 (Fr.nil n0)
    refine og st532 ?_
    refine og (fun _ => XS.icmpNo X532.here hx rfl (hb hby at_589) rfl (teq (hf.2.2.2.2.2.2 : (gi DD (6 : Int32)) = (f_ex (6 : Int32) tt iA iB iC vA vB vC (324508639 : Int32)))).2) ?_
    refine og (fun _ => XS.iconst X532.here hx rfl (hb hby at_592)) ?_
    refine og (fun _ => XS.goto X532.here hx rfl (pc0 := 593) (pc' := 597) rfl (hb hby at_593) (by decide) (by decide)) ?_
    refine OGets.retN X532 hx hlk (t := .boolean) Bd.returns (by simp) (hb hby at_597) (nb rfl) (nb rfl) ?_
    exact ⟨rfl, N532⟩
  · show OGets p e below _ (T482.setTop (mkF m 238 #[jv p0, sv, jv p1, sv, jv p2, sv, jv p3, sv, iv p4, iv p5, iv lA, iv hA, iv lB, iv hB, iv lC, iv hC, iv vA, iv vB, iv vC, iv oo, iv tt, iv iA, iv iA, iv iB, iv iC, rv b468, uv, uv, uv, uv, uv, uv, uv, uv] [(.ref b468), (.ref b482), (.ref b482)]))
    have V534_ : OView Z _ h482 (oY b482 [.null, .null, .null, .null, .null, (.int 0)] :: oL b468 [(.int 3), (.ref b473), (.int 3)] :: oO3 b473 b470 b474 b478 :: oV b470 [.null, .null, (.ref d471), (.int iA), .null] :: oV b474 [.null, .null, (.ref d475), (.int iB), .null] :: oV b478 [.null, .null, (.ref d479), (.int iC), .null] :: oD d471 [(.int 0), (.int lA), (.int hA)] :: oD d475 [(.int 0), (.int lB), (.int hB)] :: oD d479 [(.int 0), (.int lC), (.int hC)] :: []) := ((((((((V482.bring 6 rfl).bring 8 rfl).bring 5 rfl).bring 7 rfl).bring 8 rfl).bring 7 rfl).bring 7 rfl).bring 7 rfl)
    obtain ⟨_, _, ⟨T534, L534, k534, n534⟩, -, X534, ⟨Lc534, hQ534, l534, y534, z534⟩, st534⟩ := X482.specialBack hx (y := (⟨"com/example/inya/inya/StateLayout", "<init>", "(Ljava/util/List;)V"⟩ : MethodName)) rfl hown (mvT hZ (ow hw 107 rfl)) (mvT hZ (ow hw 108 rfl)) (mvT hZ (ow hw 109 rfl)) (by decide) (backOf (W := 1) (rm_sin0 l Z a0 hw [] b482 b468 b473 b470 b474 b478 d471 d475 d479 iA iB iC lA hA lB hB lC hC h482 n0 _ Z482 Qb.1 Qb.2 hb2 V534_) hZ (ow hw 109 rfl) (ow hw 106 rfl) (by decide) (by decide)) (g := (mkF m 238 #[jv p0, sv, jv p1, sv, jv p2, sv, jv p3, sv, iv p4, iv p5, iv lA, iv hA, iv lB, iv hB, iv lC, iv hC, iv vA, iv vB, iv vC, iv oo, iv tt, iv iA, iv iA, iv iB, iv iC, rv b468, uv, uv, uv, uv, uv, uv, uv, uv] [(.ref b468), (.ref b482), (.ref b482)])) rfl (by rw [hml]; rfl) (Steps.refl _) (a := b482) (argsL := [(.ref b468)]) (rest := [(.ref b482)]) (lenOf pd_32 rfl) rfl (by show 2 * 0 + _ ≤ _; exact Nat.le_of_eq rfl) (hb hby at_238) (fun _ _ => ⟨rfl, e482, nb rfl, nb rfl⟩)
    dsimp only [Pt.U, Pt.locs, Pt.cells, Pt.slots] at X534 l534 y534 z534 st534 hQ534
    rw [l534, y534, z534] at X534
    obtain ⟨rfl, N534q, ai534, aw534, as534, am534, ao534, V534⟩ := hQ534
    have N534 := Fr.app N481 N534q
    have V534v : OView Z n0 T534.heap (oY b482 [(.ref ai534), (.ref aw534), (.ref as534), (.ref am534), (.ref ao534), (.int 1)] :: oI ai534 [iA, iB, iC] :: oI aw534 [0, 0, 0] :: oI as534 [0, ((0 : Int32) + (bt lA hA)), (((0 : Int32) + (bt lA hA)) + (bt lB hB))] :: oK am534 [(msk (bt lA hA)), (msk (bt lB hB)), (msk (bt lC hC))] :: oI ao534 [lA, lB, lC] :: []) := V534
    have Z534 : n0 ≤ T534.heap.size := V534v.big 0 rfl
    refine OGets.after st534 ?_
    refine og (fun _ => XS.astore X534.here hx rfl (hb hby at_241) rfl rfl (l' := #[jv p0, sv, jv p1, sv, jv p2, sv, jv p3, sv, iv p4, iv p5, iv lA, iv hA, iv lB, iv hB, iv lC, iv hC, iv vA, iv vB, iv vC, iv oo, iv tt, iv iA, iv iA, iv iB, iv iC, rv b468, rv b482, uv, uv, uv, uv, uv, uv, uv]) rfl) ?_
    refine og (fun _ => XS.iconst X534.here hx rfl (hb hby at_243)) ?_
    obtain ⟨T535, h535, k535, X535, e535, E535, A535, st535⟩ := newP X534 hx hZ (ow hw 120 rfl) rfl (g := (mkF m 244 #[jv p0, sv, jv p1, sv, jv p2, sv, jv p3, sv, iv p4, iv p5, iv lA, iv hA, iv lB, iv hB, iv lC, iv hC, iv vA, iv vB, iv vC, iv oo, iv tt, iv iA, iv iA, iv iB, iv iC, rv b468, rv b482, uv, uv, uv, uv, uv, uv, uv] [(.int 3)])) rfl (hb hby at_244) rfl (by decide) (cap := 3) (by decide) (by decide) (by decide) (by decide)
    have V535' := V534v.newArr Z534 E535 A535 3 rfl
    have Z535 : n0 ≤ h535.size := Nat.le_trans Z534 E535.1
    obtain ⟨b535, g535⟩ : ∃ z, z = T534.heap.size := ⟨_, rfl⟩
    rw [← g535] at V535' st535
    have V535 : OView Z n0 h535 (oI b535 [0, 0, 0] :: oY b482 [(.ref ai534), (.ref aw534), (.ref as534), (.ref am534), (.ref ao534), (.int 1)] :: oI ai534 [iA, iB, iC] :: oI aw534 [0, 0, 0] :: oI as534 [0, ((0 : Int32) + (bt lA hA)), (((0 : Int32) + (bt lA hA)) + (bt lB hB))] :: oK am534 [(msk (bt lA hA)), (msk (bt lB hB)), (msk (bt lC hC))] :: oI ao534 [lA, lB, lC] :: []) := V535'
    refine og st535 ?_
    have Vs536 : OView Z n0 h535 (oA b535 [(0 : Int32), (0 : Int32), (0 : Int32)] :: oY b482 [(.ref ai534), (.ref aw534), (.ref as534), (.ref am534), (.ref ao534), (.int 1)] :: oI ai534 [iA, iB, iC] :: oI aw534 [0, 0, 0] :: oI as534 [0, ((0 : Int32) + (bt lA hA)), (((0 : Int32) + (bt lA hA)) + (bt lB hB))] :: oK am534 [(msk (bt lA hA)), (msk (bt lB hB)), (msk (bt lC hC))] :: oI ao534 [lA, lB, lC] :: []) := V535
    show OGets p e below _ (T535.setTop (mkF m 246 #[jv p0, sv, jv p1, sv, jv p2, sv, jv p3, sv, iv p4, iv p5, iv lA, iv hA, iv lB, iv hB, iv lC, iv hC, iv vA, iv vB, iv vC, iv oo, iv tt, iv iA, iv iA, iv iB, iv iC, rv b468, rv b482, uv, uv, uv, uv, uv, uv, uv] [(.ref b535)]))
    refine og (fun _ => XS.astore X535.here hx rfl (hb hby at_246) rfl rfl (l' := #[jv p0, sv, jv p1, sv, jv p2, sv, jv p3, sv, iv p4, iv p5, iv lA, iv hA, iv lB, iv hB, iv lC, iv hC, iv vA, iv vB, iv vC, iv oo, iv tt, iv iA, iv iA, iv iB, iv iC, rv b468, rv b482, rv b535, uv, uv, uv, uv, uv, uv]) rfl) ?_
    refine og (fun _ => XS.aload X535.here hx rfl (hb hby at_248) rfl rfl) ?_
    refine og (fun _ => XS.iload X535.here hx rfl (hb hby at_250) rfl) ?_
    refine og (fun _ => XS.iload X535.here hx rfl (hb hby at_252) rfl) ?_
    obtain ⟨cl537, Ar537, S537⟩ := Vs536.arr 0 rfl
    obtain ⟨T537, h537, X537, e537, W537, st537⟩ := stI X535 hx hZ e535 Ar537 (j := iA) (own_sin (n := 3) S537 (by simp only [List.length_map, si_len, sj_len, List.length_replicate, own_l3]) Q3.1) (g := (mkF m 254 #[jv p0, sv, jv p1, sv, jv p2, sv, jv p3, sv, iv p4, iv p5, iv lA, iv hA, iv lB, iv hB, iv lC, iv hC, iv vA, iv vB, iv vC, iv oo, iv tt, iv iA, iv iA, iv iB, iv iC, rv b468, rv b482, rv b535, uv, uv, uv, uv, uv, uv] [(.int vA), (.int iA), (.ref b535)])) rfl rfl (hb hby at_254)
    have V537 : OView Z n0 h537 (oA b535 (si [(0 : Int32), (0 : Int32), (0 : Int32)] iA vA) :: oY b482 [(.ref ai534), (.ref aw534), (.ref as534), (.ref am534), (.ref ao534), (.int 1)] :: oI ai534 [iA, iB, iC] :: oI aw534 [0, 0, 0] :: oI as534 [0, ((0 : Int32) + (bt lA hA)), (((0 : Int32) + (bt lA hA)) + (bt lB hB))] :: oK am534 [(msk (bt lA hA)), (msk (bt lB hB)), (msk (bt lC hC))] :: oI ao534 [lA, lB, lC] :: []) := Vs536.putI 0 rfl W537
    have N537 := Fr.snoc X537 N534 (Vs536.old 0 rfl)
    have Z537 : n0 ≤ h537.size := by rw [W537.size]; exact Z535
    refine og st537 ?_
    refine og (fun _ => XS.aload X537.here hx rfl (hb hby at_255) rfl rfl) ?_
    refine og (fun _ => XS.iload X537.here hx rfl (hb hby at_257) rfl) ?_
    refine og (fun _ => XS.iload X537.here hx rfl (hb hby at_259) rfl) ?_
    obtain ⟨cl538, Ar538, S538⟩ := V537.arr 0 rfl
    obtain ⟨T538, h538, X538, e538, W538, st538⟩ := stI X537 hx hZ e537 Ar538 (j := iB) (own_sin (n := 3) S538 (by simp only [List.length_map, si_len, sj_len, List.length_replicate, own_l3]) Q3.2.1) (g := (mkF m 261 #[jv p0, sv, jv p1, sv, jv p2, sv, jv p3, sv, iv p4, iv p5, iv lA, iv hA, iv lB, iv hB, iv lC, iv hC, iv vA, iv vB, iv vC, iv oo, iv tt, iv iA, iv iA, iv iB, iv iC, rv b468, rv b482, rv b535, uv, uv, uv, uv, uv, uv] [(.int vB), (.int iB), (.ref b535)])) rfl rfl (hb hby at_261)
    have V538 : OView Z n0 h538 (oA b535 (si (si [(0 : Int32), (0 : Int32), (0 : Int32)] iA vA) iB vB) :: oY b482 [(.ref ai534), (.ref aw534), (.ref as534), (.ref am534), (.ref ao534), (.int 1)] :: oI ai534 [iA, iB, iC] :: oI aw534 [0, 0, 0] :: oI as534 [0, ((0 : Int32) + (bt lA hA)), (((0 : Int32) + (bt lA hA)) + (bt lB hB))] :: oK am534 [(msk (bt lA hA)), (msk (bt lB hB)), (msk (bt lC hC))] :: oI ao534 [lA, lB, lC] :: []) := V537.putI 0 rfl W538
    have N538 := Fr.snoc X538 N537 (V537.old 0 rfl)
    have Z538 : n0 ≤ h538.size := by rw [W538.size]; exact Z537
    refine og st538 ?_
    refine og (fun _ => XS.aload X538.here hx rfl (hb hby at_262) rfl rfl) ?_
    refine og (fun _ => XS.iload X538.here hx rfl (hb hby at_264) rfl) ?_
    refine og (fun _ => XS.iload X538.here hx rfl (hb hby at_266) rfl) ?_
    obtain ⟨cl539, Ar539, S539⟩ := V538.arr 0 rfl
    obtain ⟨T539, h539, X539, e539, W539, st539⟩ := stI X538 hx hZ e538 Ar539 (j := iC) (own_sin (n := 3) S539 (by simp only [List.length_map, si_len, sj_len, List.length_replicate, own_l3]) Q3.2.2) (g := (mkF m 268 #[jv p0, sv, jv p1, sv, jv p2, sv, jv p3, sv, iv p4, iv p5, iv lA, iv hA, iv lB, iv hB, iv lC, iv hC, iv vA, iv vB, iv vC, iv oo, iv tt, iv iA, iv iA, iv iB, iv iC, rv b468, rv b482, rv b535, uv, uv, uv, uv, uv, uv] [(.int vC), (.int iC), (.ref b535)])) rfl rfl (hb hby at_268)
    have V539 : OView Z n0 h539 (oA b535 (si (si (si [(0 : Int32), (0 : Int32), (0 : Int32)] iA vA) iB vB) iC vC) :: oY b482 [(.ref ai534), (.ref aw534), (.ref as534), (.ref am534), (.ref ao534), (.int 1)] :: oI ai534 [iA, iB, iC] :: oI aw534 [0, 0, 0] :: oI as534 [0, ((0 : Int32) + (bt lA hA)), (((0 : Int32) + (bt lA hA)) + (bt lB hB))] :: oK am534 [(msk (bt lA hA)), (msk (bt lB hB)), (msk (bt lC hC))] :: oI ao534 [lA, lB, lC] :: []) := V538.putI 0 rfl W539
    have N539 := Fr.snoc X539 N538 (V538.old 0 rfl)
    have Z539 : n0 ≤ h539.size := by rw [W539.size]; exact Z538
    refine og st539 ?_
    refine og (fun _ => XS.iconst X539.here hx rfl (hb hby at_269)) ?_
    obtain ⟨T540, h540, k540, X540, e540, E540, A540, st540⟩ := newP X539 hx hZ (ow hw 127 rfl) e539 (g := (mkF m 270 #[jv p0, sv, jv p1, sv, jv p2, sv, jv p3, sv, iv p4, iv p5, iv lA, iv hA, iv lB, iv hB, iv lC, iv hC, iv vA, iv vB, iv vC, iv oo, iv tt, iv iA, iv iA, iv iB, iv iC, rv b468, rv b482, rv b535, uv, uv, uv, uv, uv, uv] [(.int 2)])) rfl (hb hby at_270) rfl (by decide) (cap := 2) (by decide) (by decide) (by decide) (by decide)
    have V540' := V539.newArr Z539 E540 A540 2 rfl
    have Z540 : n0 ≤ h540.size := Nat.le_trans Z539 E540.1
    obtain ⟨b540, g540⟩ : ∃ z, z = h539.size := ⟨_, rfl⟩
    rw [← g540] at V540' st540
    have V540 : OView Z n0 h540 (oK b540 [0, 0] :: oA b535 (si (si (si [(0 : Int32), (0 : Int32), (0 : Int32)] iA vA) iB vB) iC vC) :: oY b482 [(.ref ai534), (.ref aw534), (.ref as534), (.ref am534), (.ref ao534), (.int 1)] :: oI ai534 [iA, iB, iC] :: oI aw534 [0, 0, 0] :: oI as534 [0, ((0 : Int32) + (bt lA hA)), (((0 : Int32) + (bt lA hA)) + (bt lB hB))] :: oK am534 [(msk (bt lA hA)), (msk (bt lB hB)), (msk (bt lC hC))] :: oI ao534 [lA, lB, lC] :: []) := V540'
    refine og st540 ?_
    refine og (fun _ => XS.astore X540.here hx rfl (hb hby at_272) rfl rfl (l' := #[jv p0, sv, jv p1, sv, jv p2, sv, jv p3, sv, iv p4, iv p5, iv lA, iv hA, iv lB, iv hB, iv lC, iv hC, iv vA, iv vB, iv vC, iv oo, iv tt, iv iA, iv iA, iv iB, iv iC, rv b468, rv b482, rv b535, rv b540, uv, uv, uv, uv, uv]) rfl) ?_
    refine og (fun _ => XS.aload X540.here hx rfl (hb hby at_274) rfl rfl) ?_
    refine og (fun _ => XS.aload X540.here hx rfl (hb hby at_276) rfl rfl) ?_
    refine og (fun _ => XS.aload X540.here hx rfl (hb hby at_278) rfl rfl) ?_
    have V541_ : OView Z _ h540 (oY b482 [(.ref ai534), (.ref aw534), (.ref as534), (.ref am534), (.ref ao534), (.int 1)] :: oI ai534 [iA, iB, iC] :: oI aw534 [0, 0, 0] :: oI as534 [0, ((0 : Int32) + (bt lA hA)), (((0 : Int32) + (bt lA hA)) + (bt lB hB))] :: oI ao534 [lA, lB, lC] :: oA b535 (si (si (si [(0 : Int32), (0 : Int32), (0 : Int32)] iA vA) iB vB) iC vC) :: oK b540 [0, 0] :: oK am534 [(msk (bt lA hA)), (msk (bt lB hB)), (msk (bt lC hC))] :: []) := ((((((V540.bring 1 rfl).bring 7 rfl).bring 6 rfl).bring 6 rfl).bring 6 rfl).bring 6 rfl)
    obtain ⟨cq541, kq541, q541a, q541b, q541c⟩ := isOf hZ e540 (V541_.exa 0 rfl)
    obtain ⟨_, _, ⟨T541, L541, k541, n541⟩, -, X541, ⟨Lc541, hQ541, l541, y541, z541⟩, st541⟩ := X540.virtualBack hx (y := (⟨"com/example/inya/inya/StateLayout", "pack", "([I[J)V"⟩ : MethodName)) (z := (⟨"com/example/inya/inya/StateLayout", "pack", "([I[J)V"⟩ : MethodName)) hown (mvT hZ (ow hw 186 rfl)) (mvT hZ (ow hw 187 rfl)) (notFace_of_selects (args := #[]) (mvT hZ (ow hw 189 rfl))) (mvT hZ (ow hw 189 rfl)) (mvT hZ (ow hw 188 rfl)) (by decide) (backOf (W := 0) (rm_pack0 l Z a0 hw [] b482 ai534 aw534 as534 am534 ao534 b535 b540 iA iB iC ((0 : Int32) + (bt lA hA)) (((0 : Int32) + (bt lA hA)) + (bt lB hB)) lA lB lC (si (si (si [(0 : Int32), (0 : Int32), (0 : Int32)] iA vA) iB vB) iC vC) h540 n0 _ Z540 (by simp only [si_len, own_l3]) Q3.1 Q3.2.1 Q3.2.2 V541_) hZ (ow hw 190 rfl) (ow hw 106 rfl) (by decide) (by decide)) q541a q541c (g := (mkF m 280 #[jv p0, sv, jv p1, sv, jv p2, sv, jv p3, sv, iv p4, iv p5, iv lA, iv hA, iv lB, iv hB, iv lC, iv hC, iv vA, iv vB, iv vC, iv oo, iv tt, iv iA, iv iA, iv iB, iv iC, rv b468, rv b482, rv b535, rv b540, uv, uv, uv, uv, uv] [(.ref b540), (.ref b535), (.ref b482)])) rfl (by rw [hml]; rfl) (Steps.refl _) (argsL := [(.ref b535), (.ref b540)]) (rest := []) (lenOf pd_33 rfl) rfl (by show 2 * 0 + _ ≤ _; exact Nat.le_of_eq rfl) (hb hby at_280) (fun _ _ => ⟨rfl, e540, nb rfl, nb rfl⟩)
    dsimp only [Pt.U, Pt.locs, Pt.cells, Pt.slots] at X541 l541 y541 z541 st541 hQ541
    rw [l541, y541, z541] at X541
    obtain ⟨rfl, N541q, T0, T1, hT0, hT1, V541⟩ := hQ541
    have N541 := Fr.app N539 N541q
    have V541v : OView Z n0 T541.heap (oY b482 [(.ref ai534), (.ref aw534), (.ref as534), (.ref am534), (.ref ao534), (.int 1)] :: oI ai534 [iA, iB, iC] :: oI aw534 [0, 0, 0] :: oI as534 [0, ((0 : Int32) + (bt lA hA)), (((0 : Int32) + (bt lA hA)) + (bt lB hB))] :: oI ao534 [lA, lB, lC] :: oA b535 (si (si (si [(0 : Int32), (0 : Int32), (0 : Int32)] iA vA) iB vB) iC vC) :: oK b540 [T0, T1] :: oK am534 [(msk (bt lA hA)), (msk (bt lB hB)), (msk (bt lC hC))] :: []) := V541
    have Z541 : n0 ≤ T541.heap.size := V541v.big 0 rfl
    refine OGets.after st541 ?_
    refine og (fun _ => X541.ldc2Long hx hown (mvT hZ (ow hw 195 rfl)) (g := (mkF m 283 #[jv p0, sv, jv p1, sv, jv p2, sv, jv p3, sv, iv p4, iv p5, iv lA, iv hA, iv lB, iv hB, iv lC, iv hC, iv vA, iv vB, iv vC, iv oo, iv tt, iv iA, iv iA, iv iB, iv iC, rv b468, rv b482, rv b535, rv b540, uv, uv, uv, uv, uv] [])) rfl (hb hby at_283) _) ?_
    refine og (fun _ => XS.lstore X541.here hx rfl (hb hby at_286) rfl (l' := #[jv p0, sv, jv p1, sv, jv p2, sv, jv p3, sv, iv p4, iv p5, iv lA, iv hA, iv lB, iv hB, iv lC, iv hC, iv vA, iv vB, iv vC, iv oo, iv tt, iv iA, iv iA, iv iB, iv iC, rv b468, rv b482, rv b535, rv b540, jv (-6510615555426900571 : Int64), sv, uv, uv, uv]) rfl) ?_
    refine og (fun _ => XS.iconst X541.here hx rfl (hb hby at_288)) ?_
    obtain ⟨T542, h542, k542, X542, e542, E542, A542, st542⟩ := newP X541 hx hZ (ow hw 127 rfl) rfl (g := (mkF m 289 #[jv p0, sv, jv p1, sv, jv p2, sv, jv p3, sv, iv p4, iv p5, iv lA, iv hA, iv lB, iv hB, iv lC, iv hC, iv vA, iv vB, iv vC, iv oo, iv tt, iv iA, iv iA, iv iB, iv iC, rv b468, rv b482, rv b535, rv b540, jv (-6510615555426900571 : Int64), sv, uv, uv, uv] [(.int 4)])) rfl (hb hby at_289) rfl (by decide) (cap := 4) (by decide) (by decide) (by decide) (by decide)
    have V542' := V541v.newArr Z541 E542 A542 4 rfl
    have Z542 : n0 ≤ h542.size := Nat.le_trans Z541 E542.1
    obtain ⟨b542, g542⟩ : ∃ z, z = T541.heap.size := ⟨_, rfl⟩
    rw [← g542] at V542' st542
    have V542 : OView Z n0 h542 (oK b542 [0, 0, 0, 0] :: oY b482 [(.ref ai534), (.ref aw534), (.ref as534), (.ref am534), (.ref ao534), (.int 1)] :: oI ai534 [iA, iB, iC] :: oI aw534 [0, 0, 0] :: oI as534 [0, ((0 : Int32) + (bt lA hA)), (((0 : Int32) + (bt lA hA)) + (bt lB hB))] :: oI ao534 [lA, lB, lC] :: oA b535 (si (si (si [(0 : Int32), (0 : Int32), (0 : Int32)] iA vA) iB vB) iC vC) :: oK b540 [T0, T1] :: oK am534 [(msk (bt lA hA)), (msk (bt lB hB)), (msk (bt lC hC))] :: []) := V542'
    refine og st542 ?_
    refine og (fun _ => XS.dup X542.here hx rfl (hb hby at_291) rfl rfl) ?_
    refine og (fun _ => XS.iconst X542.here hx rfl (hb hby at_292)) ?_
    refine og (fun _ => XS.lload X542.here hx rfl (hb hby at_293) rfl) ?_
    obtain ⟨cl543, Ar543, S543⟩ := V542.arr 0 rfl
    obtain ⟨T543, h543, X543, e543, W543', st543⟩ := stJ X542 hx hZ e542 Ar543 (j := (0 : Int32)) (own_inb S543 0 (by decide) (nb rfl)) (g := (mkF m 295 #[jv p0, sv, jv p1, sv, jv p2, sv, jv p3, sv, iv p4, iv p5, iv lA, iv hA, iv lB, iv hB, iv lC, iv hC, iv vA, iv vB, iv vC, iv oo, iv tt, iv iA, iv iA, iv iB, iv iC, rv b468, rv b482, rv b535, rv b540, jv (-6510615555426900571 : Int64), sv, uv, uv, uv] [(.long (-6510615555426900571 : Int64)), (.int 0), (.ref b542), (.ref b542)])) rfl rfl (hb hby at_295)
    have W543 := own_wr (vs := []) 0 (by decide) W543'
    have V543 : OView Z n0 h543 (oK b542 [(-6510615555426900571 : Int64), 0, 0, 0] :: oY b482 [(.ref ai534), (.ref aw534), (.ref as534), (.ref am534), (.ref ao534), (.int 1)] :: oI ai534 [iA, iB, iC] :: oI aw534 [0, 0, 0] :: oI as534 [0, ((0 : Int32) + (bt lA hA)), (((0 : Int32) + (bt lA hA)) + (bt lB hB))] :: oI ao534 [lA, lB, lC] :: oA b535 (si (si (si [(0 : Int32), (0 : Int32), (0 : Int32)] iA vA) iB vB) iC vC) :: oK b540 [T0, T1] :: oK am534 [(msk (bt lA hA)), (msk (bt lB hB)), (msk (bt lC hC))] :: []) := V542.putA 0 rfl W543
    have N543 := Fr.snoc X543 N541 (V542.old 0 rfl)
    have Z543 : n0 ≤ h543.size := by rw [W543.size]; exact Z542
    refine og st543 ?_
    refine og (fun _ => XS.dup X543.here hx rfl (hb hby at_296) rfl rfl) ?_
    refine og (fun _ => XS.iconst X543.here hx rfl (hb hby at_297)) ?_
    refine og (fun _ => XS.lload X543.here hx rfl (hb hby at_298) rfl) ?_
    obtain ⟨cl544, Ar544, S544⟩ := V543.arr 0 rfl
    obtain ⟨T544, h544, X544, e544, W544', st544⟩ := stJ X543 hx hZ e543 Ar544 (j := (1 : Int32)) (own_inb S544 1 (by decide) (nb rfl)) (g := (mkF m 300 #[jv p0, sv, jv p1, sv, jv p2, sv, jv p3, sv, iv p4, iv p5, iv lA, iv hA, iv lB, iv hB, iv lC, iv hC, iv vA, iv vB, iv vC, iv oo, iv tt, iv iA, iv iA, iv iB, iv iC, rv b468, rv b482, rv b535, rv b540, jv (-6510615555426900571 : Int64), sv, uv, uv, uv] [(.long (-6510615555426900571 : Int64)), (.int 1), (.ref b542), (.ref b542)])) rfl rfl (hb hby at_300)
    have W544 := own_wr (vs := []) 1 (by decide) W544'
    have V544 : OView Z n0 h544 (oK b542 [(-6510615555426900571 : Int64), (-6510615555426900571 : Int64), 0, 0] :: oY b482 [(.ref ai534), (.ref aw534), (.ref as534), (.ref am534), (.ref ao534), (.int 1)] :: oI ai534 [iA, iB, iC] :: oI aw534 [0, 0, 0] :: oI as534 [0, ((0 : Int32) + (bt lA hA)), (((0 : Int32) + (bt lA hA)) + (bt lB hB))] :: oI ao534 [lA, lB, lC] :: oA b535 (si (si (si [(0 : Int32), (0 : Int32), (0 : Int32)] iA vA) iB vB) iC vC) :: oK b540 [T0, T1] :: oK am534 [(msk (bt lA hA)), (msk (bt lB hB)), (msk (bt lC hC))] :: []) := V543.putA 0 rfl W544
    have N544 := Fr.snoc X544 N543 (V543.old 0 rfl)
    have Z544 : n0 ≤ h544.size := by rw [W544.size]; exact Z543
    refine og st544 ?_
    refine og (fun _ => XS.dup X544.here hx rfl (hb hby at_301) rfl rfl) ?_
    refine og (fun _ => XS.iconst X544.here hx rfl (hb hby at_302)) ?_
    refine og (fun _ => XS.lload X544.here hx rfl (hb hby at_303) rfl) ?_
    obtain ⟨cl545, Ar545, S545⟩ := V544.arr 0 rfl
    obtain ⟨T545, h545, X545, e545, W545', st545⟩ := stJ X544 hx hZ e544 Ar545 (j := (2 : Int32)) (own_inb S545 2 (by decide) (nb rfl)) (g := (mkF m 305 #[jv p0, sv, jv p1, sv, jv p2, sv, jv p3, sv, iv p4, iv p5, iv lA, iv hA, iv lB, iv hB, iv lC, iv hC, iv vA, iv vB, iv vC, iv oo, iv tt, iv iA, iv iA, iv iB, iv iC, rv b468, rv b482, rv b535, rv b540, jv (-6510615555426900571 : Int64), sv, uv, uv, uv] [(.long (-6510615555426900571 : Int64)), (.int 2), (.ref b542), (.ref b542)])) rfl rfl (hb hby at_305)
    have W545 := own_wr (vs := []) 2 (by decide) W545'
    have V545 : OView Z n0 h545 (oK b542 [(-6510615555426900571 : Int64), (-6510615555426900571 : Int64), (-6510615555426900571 : Int64), 0] :: oY b482 [(.ref ai534), (.ref aw534), (.ref as534), (.ref am534), (.ref ao534), (.int 1)] :: oI ai534 [iA, iB, iC] :: oI aw534 [0, 0, 0] :: oI as534 [0, ((0 : Int32) + (bt lA hA)), (((0 : Int32) + (bt lA hA)) + (bt lB hB))] :: oI ao534 [lA, lB, lC] :: oA b535 (si (si (si [(0 : Int32), (0 : Int32), (0 : Int32)] iA vA) iB vB) iC vC) :: oK b540 [T0, T1] :: oK am534 [(msk (bt lA hA)), (msk (bt lB hB)), (msk (bt lC hC))] :: []) := V544.putA 0 rfl W545
    have N545 := Fr.snoc X545 N544 (V544.old 0 rfl)
    have Z545 : n0 ≤ h545.size := by rw [W545.size]; exact Z544
    refine og st545 ?_
    refine og (fun _ => XS.dup X545.here hx rfl (hb hby at_306) rfl rfl) ?_
    refine og (fun _ => XS.iconst X545.here hx rfl (hb hby at_307)) ?_
    refine og (fun _ => XS.lload X545.here hx rfl (hb hby at_308) rfl) ?_
    obtain ⟨cl546, Ar546, S546⟩ := V545.arr 0 rfl
    obtain ⟨T546, h546, X546, e546, W546', st546⟩ := stJ X545 hx hZ e545 Ar546 (j := (3 : Int32)) (own_inb S546 3 (by decide) (nb rfl)) (g := (mkF m 310 #[jv p0, sv, jv p1, sv, jv p2, sv, jv p3, sv, iv p4, iv p5, iv lA, iv hA, iv lB, iv hB, iv lC, iv hC, iv vA, iv vB, iv vC, iv oo, iv tt, iv iA, iv iA, iv iB, iv iC, rv b468, rv b482, rv b535, rv b540, jv (-6510615555426900571 : Int64), sv, uv, uv, uv] [(.long (-6510615555426900571 : Int64)), (.int 3), (.ref b542), (.ref b542)])) rfl rfl (hb hby at_310)
    have W546 := own_wr (vs := []) 3 (by decide) W546'
    have V546 : OView Z n0 h546 (oK b542 [(-6510615555426900571 : Int64), (-6510615555426900571 : Int64), (-6510615555426900571 : Int64), (-6510615555426900571 : Int64)] :: oY b482 [(.ref ai534), (.ref aw534), (.ref as534), (.ref am534), (.ref ao534), (.int 1)] :: oI ai534 [iA, iB, iC] :: oI aw534 [0, 0, 0] :: oI as534 [0, ((0 : Int32) + (bt lA hA)), (((0 : Int32) + (bt lA hA)) + (bt lB hB))] :: oI ao534 [lA, lB, lC] :: oA b535 (si (si (si [(0 : Int32), (0 : Int32), (0 : Int32)] iA vA) iB vB) iC vC) :: oK b540 [T0, T1] :: oK am534 [(msk (bt lA hA)), (msk (bt lB hB)), (msk (bt lC hC))] :: []) := V545.putA 0 rfl W546
    have N546 := Fr.snoc X546 N545 (V545.old 0 rfl)
    have Z546 : n0 ≤ h546.size := by rw [W546.size]; exact Z545
    refine og st546 ?_
    have Vs547 : OView Z n0 h546 (oB b542 [(-6510615555426900571 : Int64), (-6510615555426900571 : Int64), (-6510615555426900571 : Int64), (-6510615555426900571 : Int64)] :: oY b482 [(.ref ai534), (.ref aw534), (.ref as534), (.ref am534), (.ref ao534), (.int 1)] :: oI ai534 [iA, iB, iC] :: oI aw534 [0, 0, 0] :: oI as534 [0, ((0 : Int32) + (bt lA hA)), (((0 : Int32) + (bt lA hA)) + (bt lB hB))] :: oI ao534 [lA, lB, lC] :: oA b535 (si (si (si [(0 : Int32), (0 : Int32), (0 : Int32)] iA vA) iB vB) iC vC) :: oK b540 [T0, T1] :: oK am534 [(msk (bt lA hA)), (msk (bt lB hB)), (msk (bt lC hC))] :: []) := V546
    show OGets p e below _ (T546.setTop (mkF m 311 #[jv p0, sv, jv p1, sv, jv p2, sv, jv p3, sv, iv p4, iv p5, iv lA, iv hA, iv lB, iv hB, iv lC, iv hC, iv vA, iv vB, iv vC, iv oo, iv tt, iv iA, iv iA, iv iB, iv iC, rv b468, rv b482, rv b535, rv b540, jv (-6510615555426900571 : Int64), sv, uv, uv, uv] [(.ref b542)]))
    refine og (fun _ => XS.astore X546.here hx rfl (hb hby at_311) rfl rfl (l' := #[jv p0, sv, jv p1, sv, jv p2, sv, jv p3, sv, iv p4, iv p5, iv lA, iv hA, iv lB, iv hB, iv lC, iv hC, iv vA, iv vB, iv vC, iv oo, iv tt, iv iA, iv iA, iv iB, iv iC, rv b468, rv b482, rv b535, rv b540, jv (-6510615555426900571 : Int64), sv, rv b542, uv, uv]) rfl) ?_
    refine og (fun _ => XS.aload X546.here hx rfl (hb hby at_313) rfl rfl) ?_
    refine og (fun _ => XS.iload X546.here hx rfl (hb hby at_315) rfl) ?_
    refine og (fun _ => XS.aload X546.here hx rfl (hb hby at_317) rfl rfl) ?_
    refine og (fun _ => XS.iconst X546.here hx rfl (hb hby at_319)) ?_
    obtain ⟨cl548, Ar548, S548⟩ := Vs547.arr 7 rfl
    refine og (fun _ => X546.laload hx (j := (0 : Int32)) (v := (.long T0)) (by rw [e546]; exact Ar548.1) (State.isArrayOf_alike hZ.alike Ar548.2.1) Ar548.2.2 (own_inb S548 0 (by decide) (nb rfl)) (own_get S548 0 (by decide) rfl) (g := (mkF m 320 #[jv p0, sv, jv p1, sv, jv p2, sv, jv p3, sv, iv p4, iv p5, iv lA, iv hA, iv lB, iv hB, iv lC, iv hC, iv vA, iv vB, iv vC, iv oo, iv tt, iv iA, iv iA, iv iB, iv iC, rv b468, rv b482, rv b535, rv b540, jv (-6510615555426900571 : Int64), sv, rv b542, uv, uv] [(.int 0), (.ref b540), (.int oo), (.ref b542)])) rfl rfl (hb hby at_320) _) ?_
    show OGets p e below _ (T546.setTop (mkF m 321 #[jv p0, sv, jv p1, sv, jv p2, sv, jv p3, sv, iv p4, iv p5, iv lA, iv hA, iv lB, iv hB, iv lC, iv hC, iv vA, iv vB, iv vC, iv oo, iv tt, iv iA, iv iA, iv iB, iv iC, rv b468, rv b482, rv b535, rv b540, jv (-6510615555426900571 : Int64), sv, rv b542, uv, uv] [(.long T0), (.int oo), (.ref b542)]))
    obtain ⟨cl549, Ar549, S549⟩ := Vs547.arr 0 rfl
    obtain ⟨T549, h549, X549, e549, W549, st549⟩ := stJ X546 hx hZ e546 Ar549 (j := oo) (own_sin (n := 4) S549 (by simp only [List.length_map, si_len, sj_len, List.length_replicate, own_l4]) Q4.1) (g := (mkF m 321 #[jv p0, sv, jv p1, sv, jv p2, sv, jv p3, sv, iv p4, iv p5, iv lA, iv hA, iv lB, iv hB, iv lC, iv hC, iv vA, iv vB, iv vC, iv oo, iv tt, iv iA, iv iA, iv iB, iv iC, rv b468, rv b482, rv b535, rv b540, jv (-6510615555426900571 : Int64), sv, rv b542, uv, uv] [(.long T0), (.int oo), (.ref b542)])) rfl rfl (hb hby at_321)
    have V549 : OView Z n0 h549 (oB b542 (sj [(-6510615555426900571 : Int64), (-6510615555426900571 : Int64), (-6510615555426900571 : Int64), (-6510615555426900571 : Int64)] oo T0) :: oY b482 [(.ref ai534), (.ref aw534), (.ref as534), (.ref am534), (.ref ao534), (.int 1)] :: oI ai534 [iA, iB, iC] :: oI aw534 [0, 0, 0] :: oI as534 [0, ((0 : Int32) + (bt lA hA)), (((0 : Int32) + (bt lA hA)) + (bt lB hB))] :: oI ao534 [lA, lB, lC] :: oA b535 (si (si (si [(0 : Int32), (0 : Int32), (0 : Int32)] iA vA) iB vB) iC vC) :: oK b540 [T0, T1] :: oK am534 [(msk (bt lA hA)), (msk (bt lB hB)), (msk (bt lC hC))] :: []) := Vs547.putJ 0 rfl W549
    have N549 := Fr.snoc X549 N546 (Vs547.old 0 rfl)
    have Z549 : n0 ≤ h549.size := by rw [W549.size]; exact Z546
    refine og st549 ?_
    refine og (fun _ => XS.aload X549.here hx rfl (hb hby at_322) rfl rfl) ?_
    have V550_ : OView Z _ h549 (oY b482 [(.ref ai534), (.ref aw534), (.ref as534), (.ref am534), (.ref ao534), (.int 1)] :: oB b542 (sj [(-6510615555426900571 : Int64), (-6510615555426900571 : Int64), (-6510615555426900571 : Int64), (-6510615555426900571 : Int64)] oo T0) :: oI ai534 [iA, iB, iC] :: oI aw534 [0, 0, 0] :: oI as534 [0, ((0 : Int32) + (bt lA hA)), (((0 : Int32) + (bt lA hA)) + (bt lB hB))] :: oI ao534 [lA, lB, lC] :: oA b535 (si (si (si [(0 : Int32), (0 : Int32), (0 : Int32)] iA vA) iB vB) iC vC) :: oK b540 [T0, T1] :: oK am534 [(msk (bt lA hA)), (msk (bt lB hB)), (msk (bt lC hC))] :: []) := (V549.bring 1 rfl)
    obtain ⟨cq550, kq550, q550a, q550b, q550c⟩ := isOf hZ e549 (V550_.exa 0 rfl)
    obtain ⟨_, _, ⟨T550, L550, k550, n550⟩, -, X550, ⟨Lc550, hQ550, l550, y550, z550⟩, st550⟩ := X549.virtualBack hx (y := (⟨"com/example/inya/inya/StateLayout", "words", "()I"⟩ : MethodName)) (z := (⟨"com/example/inya/inya/StateLayout", "words", "()I"⟩ : MethodName)) hown (mvT hZ (ow hw 196 rfl)) (mvT hZ (ow hw 197 rfl)) (notFace_of_selects (args := #[]) (mvT hZ (ow hw 199 rfl))) (mvT hZ (ow hw 199 rfl)) (mvT hZ (ow hw 198 rfl)) (by decide) (backOf (W := 0) (rm_wds l Z a0 hw [] b482 ai534 aw534 as534 am534 ao534 (1 : Int32) h549 n0 _ Z549  V550_) hZ (ow hw 200 rfl) (ow hw 106 rfl) (by decide) (by decide)) q550a q550c (g := (mkF m 324 #[jv p0, sv, jv p1, sv, jv p2, sv, jv p3, sv, iv p4, iv p5, iv lA, iv hA, iv lB, iv hB, iv lC, iv hC, iv vA, iv vB, iv vC, iv oo, iv tt, iv iA, iv iA, iv iB, iv iC, rv b468, rv b482, rv b535, rv b540, jv (-6510615555426900571 : Int64), sv, rv b542, uv, uv] [(.ref b482)])) rfl (by rw [hml]; rfl) (Steps.refl _) (argsL := []) (rest := []) (lenOf pd_21 rfl) rfl (by show 2 * 0 + _ ≤ _; exact Nat.le_of_eq rfl) (hb hby at_324) (fun _ _ => ⟨rfl, e549, nb rfl, nb rfl⟩)
    dsimp only [Pt.U, Pt.locs, Pt.cells, Pt.slots] at X550 l550 y550 z550 st550 hQ550
    rw [l550, y550, z550] at X550
    obtain ⟨rfl, rfl, e550⟩ := hQ550
    have N550 := Fr.app N549 (Fr.nil n0)
    refine OGets.after st550 ?_
    refine og (fun _ => XS.iconst X550.here hx rfl (hb hby at_327)) ?_
    refine og (fun _ => XS.icmpYes X550.here hx rfl (pc0 := 328) (pc' := 342) rfl (hb hby at_328) rfl (flt (by decide : ¬ ((1 : Int32) < (1 : Int32)))).2.2.2 (by decide) (by decide)) ?_
    refine og (fun _ => X550.ldcInt hx hown (mvT hZ (ow hw 201 rfl)) (g := (mkF m 342 #[jv p0, sv, jv p1, sv, jv p2, sv, jv p3, sv, iv p4, iv p5, iv lA, iv hA, iv lB, iv hB, iv lC, iv hC, iv vA, iv vB, iv vC, iv oo, iv tt, iv iA, iv iA, iv iB, iv iC, rv b468, rv b482, rv b535, rv b540, jv (-6510615555426900571 : Int64), sv, rv b542, uv, uv] [])) rfl (hb hby at_342) _) ?_
    refine og (fun _ => XS.istore X550.here hx rfl (hb hby at_344) rfl (l' := #[jv p0, sv, jv p1, sv, jv p2, sv, jv p3, sv, iv p4, iv p5, iv lA, iv hA, iv lB, iv hB, iv lC, iv hC, iv vA, iv vB, iv vC, iv oo, iv tt, iv iA, iv iA, iv iB, iv iC, rv b468, rv b482, rv b535, rv b540, jv (-6510615555426900571 : Int64), sv, rv b542, iv 324508639, uv]) rfl) ?_
    refine og (fun _ => XS.bipush X550.here hx rfl (hb hby at_346)) ?_
    show OGets p e below _ (T550.setTop (mkF m 348 #[jv p0, sv, jv p1, sv, jv p2, sv, jv p3, sv, iv p4, iv p5, iv lA, iv hA, iv lB, iv hB, iv lC, iv hC, iv vA, iv vB, iv vC, iv oo, iv tt, iv iA, iv iA, iv iB, iv iC, rv b468, rv b482, rv b535, rv b540, jv (-6510615555426900571 : Int64), sv, rv b542, iv 324508639, uv] [(.int 7)]))
    obtain ⟨T552, h552, k552, X552, e552, E552, A552, st552⟩ := newP X550 hx hZ (ow hw 120 rfl) e550 (g := (mkF m 348 #[jv p0, sv, jv p1, sv, jv p2, sv, jv p3, sv, iv p4, iv p5, iv lA, iv hA, iv lB, iv hB, iv lC, iv hC, iv vA, iv vB, iv vC, iv oo, iv tt, iv iA, iv iA, iv iB, iv iC, rv b468, rv b482, rv b535, rv b540, jv (-6510615555426900571 : Int64), sv, rv b542, iv 324508639, uv] [(.int 7)])) rfl (hb hby at_348) rfl (by decide) (cap := 7) (by decide) (by decide) (by decide) (by decide)
    have V552' := V550_.newArr Z549 E552 A552 7 rfl
    have Z552 : n0 ≤ h552.size := Nat.le_trans Z549 E552.1
    obtain ⟨b552, g552⟩ : ∃ z, z = h549.size := ⟨_, rfl⟩
    rw [← g552] at V552' st552
    have V552 : OView Z n0 h552 (oI b552 [0, 0, 0, 0, 0, 0, 0] :: oY b482 [(.ref ai534), (.ref aw534), (.ref as534), (.ref am534), (.ref ao534), (.int 1)] :: oB b542 (sj [(-6510615555426900571 : Int64), (-6510615555426900571 : Int64), (-6510615555426900571 : Int64), (-6510615555426900571 : Int64)] oo T0) :: oI ai534 [iA, iB, iC] :: oI aw534 [0, 0, 0] :: oI as534 [0, ((0 : Int32) + (bt lA hA)), (((0 : Int32) + (bt lA hA)) + (bt lB hB))] :: oI ao534 [lA, lB, lC] :: oA b535 (si (si (si [(0 : Int32), (0 : Int32), (0 : Int32)] iA vA) iB vB) iC vC) :: oK b540 [T0, T1] :: oK am534 [(msk (bt lA hA)), (msk (bt lB hB)), (msk (bt lC hC))] :: []) := V552'
    refine og st552 ?_
    refine og (fun _ => XS.dup X552.here hx rfl (hb hby at_350) rfl rfl) ?_
    refine og (fun _ => XS.iconst X552.here hx rfl (hb hby at_351)) ?_
    refine og (fun _ => XS.iload X552.here hx rfl (hb hby at_352) rfl) ?_
    obtain ⟨cl553, Ar553, S553⟩ := V552.arr 0 rfl
    obtain ⟨T553, h553, X553, e553, W553', st553⟩ := stI X552 hx hZ e552 Ar553 (j := (0 : Int32)) (own_inb S553 0 (by decide) (nb rfl)) (g := (mkF m 354 #[jv p0, sv, jv p1, sv, jv p2, sv, jv p3, sv, iv p4, iv p5, iv lA, iv hA, iv lB, iv hB, iv lC, iv hC, iv vA, iv vB, iv vC, iv oo, iv tt, iv iA, iv iA, iv iB, iv iC, rv b468, rv b482, rv b535, rv b540, jv (-6510615555426900571 : Int64), sv, rv b542, iv 324508639, uv] [(.int 324508639), (.int 0), (.ref b552), (.ref b552)])) rfl rfl (hb hby at_354)
    have W553 := own_wr (vs := []) 0 (by decide) W553'
    have V553 : OView Z n0 h553 (oI b552 [(324508639 : Int32), 0, 0, 0, 0, 0, 0] :: oY b482 [(.ref ai534), (.ref aw534), (.ref as534), (.ref am534), (.ref ao534), (.int 1)] :: oB b542 (sj [(-6510615555426900571 : Int64), (-6510615555426900571 : Int64), (-6510615555426900571 : Int64), (-6510615555426900571 : Int64)] oo T0) :: oI ai534 [iA, iB, iC] :: oI aw534 [0, 0, 0] :: oI as534 [0, ((0 : Int32) + (bt lA hA)), (((0 : Int32) + (bt lA hA)) + (bt lB hB))] :: oI ao534 [lA, lB, lC] :: oA b535 (si (si (si [(0 : Int32), (0 : Int32), (0 : Int32)] iA vA) iB vB) iC vC) :: oK b540 [T0, T1] :: oK am534 [(msk (bt lA hA)), (msk (bt lB hB)), (msk (bt lC hC))] :: []) := V552.putA 0 rfl W553
    have N553 := Fr.snoc X553 N550 (V552.old 0 rfl)
    have Z553 : n0 ≤ h553.size := by rw [W553.size]; exact Z552
    refine og st553 ?_
    refine og (fun _ => XS.dup X553.here hx rfl (hb hby at_355) rfl rfl) ?_
    refine og (fun _ => XS.iconst X553.here hx rfl (hb hby at_356)) ?_
    refine og (fun _ => XS.iload X553.here hx rfl (hb hby at_357) rfl) ?_
    obtain ⟨cl554, Ar554, S554⟩ := V553.arr 0 rfl
    obtain ⟨T554, h554, X554, e554, W554', st554⟩ := stI X553 hx hZ e553 Ar554 (j := (1 : Int32)) (own_inb S554 1 (by decide) (nb rfl)) (g := (mkF m 359 #[jv p0, sv, jv p1, sv, jv p2, sv, jv p3, sv, iv p4, iv p5, iv lA, iv hA, iv lB, iv hB, iv lC, iv hC, iv vA, iv vB, iv vC, iv oo, iv tt, iv iA, iv iA, iv iB, iv iC, rv b468, rv b482, rv b535, rv b540, jv (-6510615555426900571 : Int64), sv, rv b542, iv 324508639, uv] [(.int 324508639), (.int 1), (.ref b552), (.ref b552)])) rfl rfl (hb hby at_359)
    have W554 := own_wr (vs := []) 1 (by decide) W554'
    have V554 : OView Z n0 h554 (oI b552 [(324508639 : Int32), (324508639 : Int32), 0, 0, 0, 0, 0] :: oY b482 [(.ref ai534), (.ref aw534), (.ref as534), (.ref am534), (.ref ao534), (.int 1)] :: oB b542 (sj [(-6510615555426900571 : Int64), (-6510615555426900571 : Int64), (-6510615555426900571 : Int64), (-6510615555426900571 : Int64)] oo T0) :: oI ai534 [iA, iB, iC] :: oI aw534 [0, 0, 0] :: oI as534 [0, ((0 : Int32) + (bt lA hA)), (((0 : Int32) + (bt lA hA)) + (bt lB hB))] :: oI ao534 [lA, lB, lC] :: oA b535 (si (si (si [(0 : Int32), (0 : Int32), (0 : Int32)] iA vA) iB vB) iC vC) :: oK b540 [T0, T1] :: oK am534 [(msk (bt lA hA)), (msk (bt lB hB)), (msk (bt lC hC))] :: []) := V553.putA 0 rfl W554
    have N554 := Fr.snoc X554 N553 (V553.old 0 rfl)
    have Z554 : n0 ≤ h554.size := by rw [W554.size]; exact Z553
    refine og st554 ?_
    refine og (fun _ => XS.dup X554.here hx rfl (hb hby at_360) rfl rfl) ?_
    refine og (fun _ => XS.iconst X554.here hx rfl (hb hby at_361)) ?_
    refine og (fun _ => XS.iload X554.here hx rfl (hb hby at_362) rfl) ?_
    obtain ⟨cl555, Ar555, S555⟩ := V554.arr 0 rfl
    obtain ⟨T555, h555, X555, e555, W555', st555⟩ := stI X554 hx hZ e554 Ar555 (j := (2 : Int32)) (own_inb S555 2 (by decide) (nb rfl)) (g := (mkF m 364 #[jv p0, sv, jv p1, sv, jv p2, sv, jv p3, sv, iv p4, iv p5, iv lA, iv hA, iv lB, iv hB, iv lC, iv hC, iv vA, iv vB, iv vC, iv oo, iv tt, iv iA, iv iA, iv iB, iv iC, rv b468, rv b482, rv b535, rv b540, jv (-6510615555426900571 : Int64), sv, rv b542, iv 324508639, uv] [(.int 324508639), (.int 2), (.ref b552), (.ref b552)])) rfl rfl (hb hby at_364)
    have W555 := own_wr (vs := []) 2 (by decide) W555'
    have V555 : OView Z n0 h555 (oI b552 [(324508639 : Int32), (324508639 : Int32), (324508639 : Int32), 0, 0, 0, 0] :: oY b482 [(.ref ai534), (.ref aw534), (.ref as534), (.ref am534), (.ref ao534), (.int 1)] :: oB b542 (sj [(-6510615555426900571 : Int64), (-6510615555426900571 : Int64), (-6510615555426900571 : Int64), (-6510615555426900571 : Int64)] oo T0) :: oI ai534 [iA, iB, iC] :: oI aw534 [0, 0, 0] :: oI as534 [0, ((0 : Int32) + (bt lA hA)), (((0 : Int32) + (bt lA hA)) + (bt lB hB))] :: oI ao534 [lA, lB, lC] :: oA b535 (si (si (si [(0 : Int32), (0 : Int32), (0 : Int32)] iA vA) iB vB) iC vC) :: oK b540 [T0, T1] :: oK am534 [(msk (bt lA hA)), (msk (bt lB hB)), (msk (bt lC hC))] :: []) := V554.putA 0 rfl W555
    have N555 := Fr.snoc X555 N554 (V554.old 0 rfl)
    have Z555 : n0 ≤ h555.size := by rw [W555.size]; exact Z554
    refine og st555 ?_
    refine og (fun _ => XS.dup X555.here hx rfl (hb hby at_365) rfl rfl) ?_
    refine og (fun _ => XS.iconst X555.here hx rfl (hb hby at_366)) ?_
    refine og (fun _ => XS.iload X555.here hx rfl (hb hby at_367) rfl) ?_
    obtain ⟨cl556, Ar556, S556⟩ := V555.arr 0 rfl
    obtain ⟨T556, h556, X556, e556, W556', st556⟩ := stI X555 hx hZ e555 Ar556 (j := (3 : Int32)) (own_inb S556 3 (by decide) (nb rfl)) (g := (mkF m 369 #[jv p0, sv, jv p1, sv, jv p2, sv, jv p3, sv, iv p4, iv p5, iv lA, iv hA, iv lB, iv hB, iv lC, iv hC, iv vA, iv vB, iv vC, iv oo, iv tt, iv iA, iv iA, iv iB, iv iC, rv b468, rv b482, rv b535, rv b540, jv (-6510615555426900571 : Int64), sv, rv b542, iv 324508639, uv] [(.int 324508639), (.int 3), (.ref b552), (.ref b552)])) rfl rfl (hb hby at_369)
    have W556 := own_wr (vs := []) 3 (by decide) W556'
    have V556 : OView Z n0 h556 (oI b552 [(324508639 : Int32), (324508639 : Int32), (324508639 : Int32), (324508639 : Int32), 0, 0, 0] :: oY b482 [(.ref ai534), (.ref aw534), (.ref as534), (.ref am534), (.ref ao534), (.int 1)] :: oB b542 (sj [(-6510615555426900571 : Int64), (-6510615555426900571 : Int64), (-6510615555426900571 : Int64), (-6510615555426900571 : Int64)] oo T0) :: oI ai534 [iA, iB, iC] :: oI aw534 [0, 0, 0] :: oI as534 [0, ((0 : Int32) + (bt lA hA)), (((0 : Int32) + (bt lA hA)) + (bt lB hB))] :: oI ao534 [lA, lB, lC] :: oA b535 (si (si (si [(0 : Int32), (0 : Int32), (0 : Int32)] iA vA) iB vB) iC vC) :: oK b540 [T0, T1] :: oK am534 [(msk (bt lA hA)), (msk (bt lB hB)), (msk (bt lC hC))] :: []) := V555.putA 0 rfl W556
    have N556 := Fr.snoc X556 N555 (V555.old 0 rfl)
    have Z556 : n0 ≤ h556.size := by rw [W556.size]; exact Z555
    refine og st556 ?_
    refine og (fun _ => XS.dup X556.here hx rfl (hb hby at_370) rfl rfl) ?_
    refine og (fun _ => XS.iconst X556.here hx rfl (hb hby at_371)) ?_
    refine og (fun _ => XS.iload X556.here hx rfl (hb hby at_372) rfl) ?_
    obtain ⟨cl557, Ar557, S557⟩ := V556.arr 0 rfl
    obtain ⟨T557, h557, X557, e557, W557', st557⟩ := stI X556 hx hZ e556 Ar557 (j := (4 : Int32)) (own_inb S557 4 (by decide) (nb rfl)) (g := (mkF m 374 #[jv p0, sv, jv p1, sv, jv p2, sv, jv p3, sv, iv p4, iv p5, iv lA, iv hA, iv lB, iv hB, iv lC, iv hC, iv vA, iv vB, iv vC, iv oo, iv tt, iv iA, iv iA, iv iB, iv iC, rv b468, rv b482, rv b535, rv b540, jv (-6510615555426900571 : Int64), sv, rv b542, iv 324508639, uv] [(.int 324508639), (.int 4), (.ref b552), (.ref b552)])) rfl rfl (hb hby at_374)
    have W557 := own_wr (vs := []) 4 (by decide) W557'
    have V557 : OView Z n0 h557 (oI b552 [(324508639 : Int32), (324508639 : Int32), (324508639 : Int32), (324508639 : Int32), (324508639 : Int32), 0, 0] :: oY b482 [(.ref ai534), (.ref aw534), (.ref as534), (.ref am534), (.ref ao534), (.int 1)] :: oB b542 (sj [(-6510615555426900571 : Int64), (-6510615555426900571 : Int64), (-6510615555426900571 : Int64), (-6510615555426900571 : Int64)] oo T0) :: oI ai534 [iA, iB, iC] :: oI aw534 [0, 0, 0] :: oI as534 [0, ((0 : Int32) + (bt lA hA)), (((0 : Int32) + (bt lA hA)) + (bt lB hB))] :: oI ao534 [lA, lB, lC] :: oA b535 (si (si (si [(0 : Int32), (0 : Int32), (0 : Int32)] iA vA) iB vB) iC vC) :: oK b540 [T0, T1] :: oK am534 [(msk (bt lA hA)), (msk (bt lB hB)), (msk (bt lC hC))] :: []) := V556.putA 0 rfl W557
    have N557 := Fr.snoc X557 N556 (V556.old 0 rfl)
    have Z557 : n0 ≤ h557.size := by rw [W557.size]; exact Z556
    refine og st557 ?_
    refine og (fun _ => XS.dup X557.here hx rfl (hb hby at_375) rfl rfl) ?_
    refine og (fun _ => XS.iconst X557.here hx rfl (hb hby at_376)) ?_
    refine og (fun _ => XS.iload X557.here hx rfl (hb hby at_377) rfl) ?_
    obtain ⟨cl558, Ar558, S558⟩ := V557.arr 0 rfl
    obtain ⟨T558, h558, X558, e558, W558', st558⟩ := stI X557 hx hZ e557 Ar558 (j := (5 : Int32)) (own_inb S558 5 (by decide) (nb rfl)) (g := (mkF m 379 #[jv p0, sv, jv p1, sv, jv p2, sv, jv p3, sv, iv p4, iv p5, iv lA, iv hA, iv lB, iv hB, iv lC, iv hC, iv vA, iv vB, iv vC, iv oo, iv tt, iv iA, iv iA, iv iB, iv iC, rv b468, rv b482, rv b535, rv b540, jv (-6510615555426900571 : Int64), sv, rv b542, iv 324508639, uv] [(.int 324508639), (.int 5), (.ref b552), (.ref b552)])) rfl rfl (hb hby at_379)
    have W558 := own_wr (vs := []) 5 (by decide) W558'
    have V558 : OView Z n0 h558 (oI b552 [(324508639 : Int32), (324508639 : Int32), (324508639 : Int32), (324508639 : Int32), (324508639 : Int32), (324508639 : Int32), 0] :: oY b482 [(.ref ai534), (.ref aw534), (.ref as534), (.ref am534), (.ref ao534), (.int 1)] :: oB b542 (sj [(-6510615555426900571 : Int64), (-6510615555426900571 : Int64), (-6510615555426900571 : Int64), (-6510615555426900571 : Int64)] oo T0) :: oI ai534 [iA, iB, iC] :: oI aw534 [0, 0, 0] :: oI as534 [0, ((0 : Int32) + (bt lA hA)), (((0 : Int32) + (bt lA hA)) + (bt lB hB))] :: oI ao534 [lA, lB, lC] :: oA b535 (si (si (si [(0 : Int32), (0 : Int32), (0 : Int32)] iA vA) iB vB) iC vC) :: oK b540 [T0, T1] :: oK am534 [(msk (bt lA hA)), (msk (bt lB hB)), (msk (bt lC hC))] :: []) := V557.putA 0 rfl W558
    have N558 := Fr.snoc X558 N557 (V557.old 0 rfl)
    have Z558 : n0 ≤ h558.size := by rw [W558.size]; exact Z557
    refine og st558 ?_
    refine og (fun _ => XS.dup X558.here hx rfl (hb hby at_380) rfl rfl) ?_
    refine og (fun _ => XS.bipush X558.here hx rfl (hb hby at_381)) ?_
    refine og (fun _ => XS.iload X558.here hx rfl (hb hby at_383) rfl) ?_
    obtain ⟨cl559, Ar559, S559⟩ := V558.arr 0 rfl
    obtain ⟨T559, h559, X559, e559, W559', st559⟩ := stI X558 hx hZ e558 Ar559 (j := (6 : Int32)) (own_inb S559 6 (by decide) (nb rfl)) (g := (mkF m 385 #[jv p0, sv, jv p1, sv, jv p2, sv, jv p3, sv, iv p4, iv p5, iv lA, iv hA, iv lB, iv hB, iv lC, iv hC, iv vA, iv vB, iv vC, iv oo, iv tt, iv iA, iv iA, iv iB, iv iC, rv b468, rv b482, rv b535, rv b540, jv (-6510615555426900571 : Int64), sv, rv b542, iv 324508639, uv] [(.int 324508639), (.int 6), (.ref b552), (.ref b552)])) rfl rfl (hb hby at_385)
    have W559 := own_wr (vs := []) 6 (by decide) W559'
    have V559 : OView Z n0 h559 (oI b552 [(324508639 : Int32), (324508639 : Int32), (324508639 : Int32), (324508639 : Int32), (324508639 : Int32), (324508639 : Int32), (324508639 : Int32)] :: oY b482 [(.ref ai534), (.ref aw534), (.ref as534), (.ref am534), (.ref ao534), (.int 1)] :: oB b542 (sj [(-6510615555426900571 : Int64), (-6510615555426900571 : Int64), (-6510615555426900571 : Int64), (-6510615555426900571 : Int64)] oo T0) :: oI ai534 [iA, iB, iC] :: oI aw534 [0, 0, 0] :: oI as534 [0, ((0 : Int32) + (bt lA hA)), (((0 : Int32) + (bt lA hA)) + (bt lB hB))] :: oI ao534 [lA, lB, lC] :: oA b535 (si (si (si [(0 : Int32), (0 : Int32), (0 : Int32)] iA vA) iB vB) iC vC) :: oK b540 [T0, T1] :: oK am534 [(msk (bt lA hA)), (msk (bt lB hB)), (msk (bt lC hC))] :: []) := V558.putA 0 rfl W559
    have N559 := Fr.snoc X559 N558 (V558.old 0 rfl)
    have Z559 : n0 ≤ h559.size := by rw [W559.size]; exact Z558
    refine og st559 ?_
    have Vs560 : OView Z n0 h559 (oA b552 [(324508639 : Int32), (324508639 : Int32), (324508639 : Int32), (324508639 : Int32), (324508639 : Int32), (324508639 : Int32), (324508639 : Int32)] :: oY b482 [(.ref ai534), (.ref aw534), (.ref as534), (.ref am534), (.ref ao534), (.int 1)] :: oB b542 (sj [(-6510615555426900571 : Int64), (-6510615555426900571 : Int64), (-6510615555426900571 : Int64), (-6510615555426900571 : Int64)] oo T0) :: oI ai534 [iA, iB, iC] :: oI aw534 [0, 0, 0] :: oI as534 [0, ((0 : Int32) + (bt lA hA)), (((0 : Int32) + (bt lA hA)) + (bt lB hB))] :: oI ao534 [lA, lB, lC] :: oA b535 (si (si (si [(0 : Int32), (0 : Int32), (0 : Int32)] iA vA) iB vB) iC vC) :: oK b540 [T0, T1] :: oK am534 [(msk (bt lA hA)), (msk (bt lB hB)), (msk (bt lC hC))] :: []) := V559
    show OGets p e below _ (T559.setTop (mkF m 386 #[jv p0, sv, jv p1, sv, jv p2, sv, jv p3, sv, iv p4, iv p5, iv lA, iv hA, iv lB, iv hB, iv lC, iv hC, iv vA, iv vB, iv vC, iv oo, iv tt, iv iA, iv iA, iv iB, iv iC, rv b468, rv b482, rv b535, rv b540, jv (-6510615555426900571 : Int64), sv, rv b542, iv 324508639, uv] [(.ref b552)]))
    refine og (fun _ => XS.astore X559.here hx rfl (hb hby at_386) rfl rfl (l' := #[jv p0, sv, jv p1, sv, jv p2, sv, jv p3, sv, iv p4, iv p5, iv lA, iv hA, iv lB, iv hB, iv lC, iv hC, iv vA, iv vB, iv vC, iv oo, iv tt, iv iA, iv iA, iv iB, iv iC, rv b468, rv b482, rv b535, rv b540, jv (-6510615555426900571 : Int64), sv, rv b542, iv 324508639, rv b552]) rfl) ?_
    refine og (fun _ => XS.aload X559.here hx rfl (hb hby at_388) rfl rfl) ?_
    refine og (fun _ => XS.aload X559.here hx rfl (hb hby at_390) rfl rfl) ?_
    refine og (fun _ => XS.iload X559.here hx rfl (hb hby at_392) rfl) ?_
    refine og (fun _ => XS.aload X559.here hx rfl (hb hby at_394) rfl rfl) ?_
    refine og (fun _ => XS.iload X559.here hx rfl (hb hby at_396) rfl) ?_
    show OGets p e below _ (T559.setTop (mkF m 398 #[jv p0, sv, jv p1, sv, jv p2, sv, jv p3, sv, iv p4, iv p5, iv lA, iv hA, iv lB, iv hB, iv lC, iv hC, iv vA, iv vB, iv vC, iv oo, iv tt, iv iA, iv iA, iv iB, iv iC, rv b468, rv b482, rv b535, rv b540, jv (-6510615555426900571 : Int64), sv, rv b542, iv 324508639, rv b552] [(.int tt), (.ref b552), (.int oo), (.ref b542), (.ref b482)]))
    have V561_ : OView Z _ h559 (oY b482 [(.ref ai534), (.ref aw534), (.ref as534), (.ref am534), (.ref ao534), (.int 1)] :: oI ai534 [iA, iB, iC] :: oI aw534 [0, 0, 0] :: oI as534 [0, ((0 : Int32) + (bt lA hA)), (((0 : Int32) + (bt lA hA)) + (bt lB hB))] :: oK am534 [(msk (bt lA hA)), (msk (bt lB hB)), (msk (bt lC hC))] :: oI ao534 [lA, lB, lC] :: oB b542 (sj [(-6510615555426900571 : Int64), (-6510615555426900571 : Int64), (-6510615555426900571 : Int64), (-6510615555426900571 : Int64)] oo T0) :: oA b552 [(324508639 : Int32), (324508639 : Int32), (324508639 : Int32), (324508639 : Int32), (324508639 : Int32), (324508639 : Int32), (324508639 : Int32)] :: oA b535 (si (si (si [(0 : Int32), (0 : Int32), (0 : Int32)] iA vA) iB vB) iC vC) :: oK b540 [T0, T1] :: []) := (((((((Vs560.bring 2 rfl).bring 6 rfl).bring 9 rfl).bring 7 rfl).bring 7 rfl).bring 7 rfl).bring 7 rfl)
    obtain ⟨cq561, kq561, q561a, q561b, q561c⟩ := isOf hZ e559 (V561_.exa 0 rfl)
    obtain ⟨_, _, ⟨T561, L561, k561, n561⟩, -, X561, ⟨Lc561, hQ561, l561, y561, z561⟩, st561⟩ := X559.virtualBack hx (y := (⟨"com/example/inya/inya/StateLayout", "unpack", "([JI[II)V"⟩ : MethodName)) (z := (⟨"com/example/inya/inya/StateLayout", "unpack", "([JI[II)V"⟩ : MethodName)) hown (mvT hZ (ow hw 202 rfl)) (mvT hZ (ow hw 203 rfl)) (notFace_of_selects (args := #[]) (mvT hZ (ow hw 205 rfl))) (mvT hZ (ow hw 205 rfl)) (mvT hZ (ow hw 204 rfl)) (by decide) (backOf (W := 0) (rm_unp l Z a0 hw [] b482 ai534 aw534 as534 am534 ao534 b542 b552 (1 : Int32) iA iB iC (0 : Int32) (0 : Int32) (0 : Int32) (0 : Int32) ((0 : Int32) + (bt lA hA)) (((0 : Int32) + (bt lA hA)) + (bt lB hB)) (msk (bt lA hA)) (msk (bt lB hB)) (msk (bt lC hC)) lA lB lC oo tt (sj [(-6510615555426900571 : Int64), (-6510615555426900571 : Int64), (-6510615555426900571 : Int64), (-6510615555426900571 : Int64)] oo T0) [(324508639 : Int32), (324508639 : Int32), (324508639 : Int32), (324508639 : Int32), (324508639 : Int32), (324508639 : Int32), (324508639 : Int32)] h559 n0 _ Z559 (by simp only [sj_len, own_l4]) (by simp only [own_l7]) Q4.2.1 Q4.2.1 Q4.2.1 Q7.1 Q7.2.1 Q7.2.2 V561_) hZ (ow hw 206 rfl) (ow hw 106 rfl) (by decide) (by decide)) q561a q561c (g := (mkF m 398 #[jv p0, sv, jv p1, sv, jv p2, sv, jv p3, sv, iv p4, iv p5, iv lA, iv hA, iv lB, iv hB, iv lC, iv hC, iv vA, iv vB, iv vC, iv oo, iv tt, iv iA, iv iA, iv iB, iv iC, rv b468, rv b482, rv b535, rv b540, jv (-6510615555426900571 : Int64), sv, rv b542, iv 324508639, rv b552] [(.int tt), (.ref b552), (.int oo), (.ref b542), (.ref b482)])) rfl (by rw [hml]; rfl) (Steps.refl _) (argsL := [(.ref b542), (.int oo), (.ref b552), (.int tt)]) (rest := []) (lenOf pd_34 rfl) rfl (by show 2 * 0 + _ ≤ _; exact Nat.le_of_eq rfl) (hb hby at_398) (fun _ _ => ⟨rfl, e559, nb rfl, nb rfl⟩)
    dsimp only [Pt.U, Pt.locs, Pt.cells, Pt.slots] at X561 l561 y561 z561 st561 hQ561
    rw [l561, y561, z561] at X561
    obtain ⟨rfl, N561q, V561⟩ := hQ561
    have N561 := Fr.app N559 N561q
    have V561v : OView Z n0 T561.heap (oY b482 [(.ref ai534), (.ref aw534), (.ref as534), (.ref am534), (.ref ao534), (.int 1)] :: oI ai534 [iA, iB, iC] :: oI aw534 [0, 0, 0] :: oI as534 [0, ((0 : Int32) + (bt lA hA)), (((0 : Int32) + (bt lA hA)) + (bt lB hB))] :: oK am534 [(msk (bt lA hA)), (msk (bt lB hB)), (msk (bt lC hC))] :: oI ao534 [lA, lB, lC] :: oB b542 (sj [(-6510615555426900571 : Int64), (-6510615555426900571 : Int64), (-6510615555426900571 : Int64), (-6510615555426900571 : Int64)] oo T0) :: oA b552 (si (si (si [(324508639 : Int32), (324508639 : Int32), (324508639 : Int32), (324508639 : Int32), (324508639 : Int32), (324508639 : Int32), (324508639 : Int32)] (tt + iA) (unp lA (gj (sj [(-6510615555426900571 : Int64), (-6510615555426900571 : Int64), (-6510615555426900571 : Int64), (-6510615555426900571 : Int64)] oo T0) (oo + (0 : Int32))) (0 : Int32) (msk (bt lA hA)))) (tt + iB) (unp lB (gj (sj [(-6510615555426900571 : Int64), (-6510615555426900571 : Int64), (-6510615555426900571 : Int64), (-6510615555426900571 : Int64)] oo T0) (oo + (0 : Int32))) ((0 : Int32) + (bt lA hA)) (msk (bt lB hB)))) (tt + iC) (unp lC (gj (sj [(-6510615555426900571 : Int64), (-6510615555426900571 : Int64), (-6510615555426900571 : Int64), (-6510615555426900571 : Int64)] oo T0) (oo + (0 : Int32))) (((0 : Int32) + (bt lA hA)) + (bt lB hB)) (msk (bt lC hC)))) :: oA b535 (si (si (si [(0 : Int32), (0 : Int32), (0 : Int32)] iA vA) iB vB) iC vC) :: oK b540 [T0, T1] :: []) := V561
    obtain ⟨DD, hDD⟩ : ∃ z, z = (si (si (si [(324508639 : Int32), (324508639 : Int32), (324508639 : Int32), (324508639 : Int32), (324508639 : Int32), (324508639 : Int32), (324508639 : Int32)] (tt + iA) (unp lA (gj (sj [(-6510615555426900571 : Int64), (-6510615555426900571 : Int64), (-6510615555426900571 : Int64), (-6510615555426900571 : Int64)] oo T0) (oo + (0 : Int32))) (0 : Int32) (msk (bt lA hA)))) (tt + iB) (unp lB (gj (sj [(-6510615555426900571 : Int64), (-6510615555426900571 : Int64), (-6510615555426900571 : Int64), (-6510615555426900571 : Int64)] oo T0) (oo + (0 : Int32))) ((0 : Int32) + (bt lA hA)) (msk (bt lB hB)))) (tt + iC) (unp lC (gj (sj [(-6510615555426900571 : Int64), (-6510615555426900571 : Int64), (-6510615555426900571 : Int64), (-6510615555426900571 : Int64)] oo T0) (oo + (0 : Int32))) (((0 : Int32) + (bt lA hA)) + (bt lB hB)) (msk (bt lC hC)))) := ⟨_, rfl⟩
    rw [← hDD] at V561v
    have lDD : DD.length = 7 := by rw [hDD]; simp only [si_len, own_l7]
    have Z561 : n0 ≤ T561.heap.size := V561v.big 0 rfl
    refine OGets.after st561 ?_
    have q3 := own_src (x := vA) (y := vB) (z := vC) RR
    rw [q3.1, q3.2.1] at hT0
    rw [q3.2.2] at hT0
    have q4 := own_big0 (f := (-6510615555426900571 : Int64)) (t := T0) hoo
    have q5 := own_law0 nA nB nC rA rB rC hb2 T0 hT0
    rw [q4, q5.1, q5.2.1, q5.2.2] at hDD
    have hf := own_fin RR htt DD hDD
    refine og (fun _ => XS.aload X561.here hx rfl (hb hby at_401) rfl rfl) ?_
    refine og (fun _ => XS.iconst X561.here hx rfl (hb hby at_403)) ?_
    obtain ⟨cl562, Ar562, S562⟩ := V561v.arr 7 rfl
    refine og (fun _ => X561.iaload hx (j := (0 : Int32)) (v := (.int (gi DD (0 : Int32)))) Ar562.1 (State.isArrayOf_alike hZ.alike Ar562.2.1) Ar562.2.2 (own_sin (n := 7) S562 (by simp only [List.length_map, si_len, sj_len, List.length_replicate, lDD]) (by decide)) (own_sgetI (n := 7) S562 (by simp only [List.length_map, si_len, sj_len, List.length_replicate, lDD]) (by decide)) (g := (mkF m 404 #[jv p0, sv, jv p1, sv, jv p2, sv, jv p3, sv, iv p4, iv p5, iv lA, iv hA, iv lB, iv hB, iv lC, iv hC, iv vA, iv vB, iv vC, iv oo, iv tt, iv iA, iv iA, iv iB, iv iC, rv b468, rv b482, rv b535, rv b540, jv (-6510615555426900571 : Int64), sv, rv b542, iv 324508639, rv b552] [(.int 0), (.ref b552)])) rfl rfl (hb hby at_404) _) ?_
    refine og (fun _ => XS.iconst X561.here hx rfl (hb hby at_405)) ?_
    refine og (fun _ => XS.iload X561.here hx rfl (hb hby at_406) rfl) ?_
    show OGets p e below _ (T561.setTop (mkF m 408 #[jv p0, sv, jv p1, sv, jv p2, sv, jv p3, sv, iv p4, iv p5, iv lA, iv hA, iv lB, iv hB, iv lC, iv hC, iv vA, iv vB, iv vC, iv oo, iv tt, iv iA, iv iA, iv iB, iv iC, rv b468, rv b482, rv b535, rv b540, jv (-6510615555426900571 : Int64), sv, rv b542, iv 324508639, rv b552] [(.int tt), (.int 0), (.int (gi DD (0 : Int32)))]))
    refine og (fun _ => XS.iload X561.here hx rfl (hb hby at_408) rfl) ?_
    refine og (fun _ => XS.iload X561.here hx rfl (hb hby at_410) rfl) ?_
    refine og (fun _ => XS.iload X561.here hx rfl (hb hby at_412) rfl) ?_
    refine og (fun _ => XS.iload X561.here hx rfl (hb hby at_414) rfl) ?_
    refine og (fun _ => XS.iload X561.here hx rfl (hb hby at_416) rfl) ?_
    refine og (fun _ => XS.iload X561.here hx rfl (hb hby at_418) rfl) ?_
    show OGets p e below _ (T561.setTop (mkF m 420 #[jv p0, sv, jv p1, sv, jv p2, sv, jv p3, sv, iv p4, iv p5, iv lA, iv hA, iv lB, iv hB, iv lC, iv hC, iv vA, iv vB, iv vC, iv oo, iv tt, iv iA, iv iA, iv iB, iv iC, rv b468, rv b482, rv b535, rv b540, jv (-6510615555426900571 : Int64), sv, rv b542, iv 324508639, rv b552] [(.int vC), (.int vB), (.int vA), (.int iC), (.int iB), (.int iA), (.int tt), (.int 0), (.int (gi DD (0 : Int32)))]))
    refine og (fun _ => XS.iload X561.here hx rfl (hb hby at_420) rfl) ?_
    obtain ⟨_, _, ⟨T563, L563, k563, n563⟩, -, X563, ⟨Lc563, hQ563, l563, y563, z563⟩, st563⟩ := Jvm.LawKit.callS X561 hx (y := (⟨"com/example/inya/inya/StateLayoutUnpackPinLaw", "exp", "(IIIIIIIII)I"⟩ : MethodName)) hown (mvT hZ (ow hw 207 rfl)) (mvT hZ (ow hw 208 rfl)) (mvT hZ (ow hw 3 rfl)) (mvT hZ (ow hw 209 rfl)) (by decide) (backOf (W := 1) (rm_ex l Z a0 hw [] (0 : Int32) tt iA iB iC vA vB vC (324508639 : Int32) T561.heap n0  Z561 ) hZ (ow hw 209 rfl) (ow hw 3 rfl) (by decide) (by decide)) (g := (mkF m 422 #[jv p0, sv, jv p1, sv, jv p2, sv, jv p3, sv, iv p4, iv p5, iv lA, iv hA, iv lB, iv hB, iv lC, iv hC, iv vA, iv vB, iv vC, iv oo, iv tt, iv iA, iv iA, iv iB, iv iC, rv b468, rv b482, rv b535, rv b540, jv (-6510615555426900571 : Int64), sv, rv b542, iv 324508639, rv b552] [(.int 324508639), (.int vC), (.int vB), (.int vA), (.int iC), (.int iB), (.int iA), (.int tt), (.int 0), (.int (gi DD (0 : Int32)))])) rfl (by rw [hml]; rfl) (argsL := [(.int 0), (.int tt), (.int iA), (.int iB), (.int iC), (.int vA), (.int vB), (.int vC), (.int 324508639)]) (rest := [(.int (gi DD (0 : Int32)))]) (lenOf pd_35 rfl) rfl (by show 2 * 0 + _ ≤ _; exact Nat.le_of_eq rfl) (hb hby at_422) (fun _ _ => ⟨rfl, rfl, nb rfl, nb rfl⟩)
    dsimp only [Pt.U, Pt.locs, Pt.cells, Pt.slots] at X563 l563 y563 z563 st563 hQ563
    rw [l563, y563, z563] at X563
    obtain ⟨rfl, rfl, e563⟩ := hQ563
    have N563 := Fr.app N561 (Fr.nil n0)
    refine og st563 ?_
    refine og (fun _ => XS.icmpNo X563.here hx rfl (hb hby at_425) rfl (teq (hf.1 : (gi DD (0 : Int32)) = (f_ex (0 : Int32) tt iA iB iC vA vB vC (324508639 : Int32)))).2) ?_
    refine og (fun _ => XS.aload X563.here hx rfl (hb hby at_428) rfl rfl) ?_
    refine og (fun _ => XS.iconst X563.here hx rfl (hb hby at_430)) ?_
    obtain ⟨cl565, Ar565, S565⟩ := V561v.arr 7 rfl
    refine og (fun _ => X563.iaload hx (j := (1 : Int32)) (v := (.int (gi DD (1 : Int32)))) (by rw [e563]; exact Ar565.1) (State.isArrayOf_alike hZ.alike Ar565.2.1) Ar565.2.2 (own_sin (n := 7) S565 (by simp only [List.length_map, si_len, sj_len, List.length_replicate, lDD]) (by decide)) (own_sgetI (n := 7) S565 (by simp only [List.length_map, si_len, sj_len, List.length_replicate, lDD]) (by decide)) (g := (mkF m 431 #[jv p0, sv, jv p1, sv, jv p2, sv, jv p3, sv, iv p4, iv p5, iv lA, iv hA, iv lB, iv hB, iv lC, iv hC, iv vA, iv vB, iv vC, iv oo, iv tt, iv iA, iv iA, iv iB, iv iC, rv b468, rv b482, rv b535, rv b540, jv (-6510615555426900571 : Int64), sv, rv b542, iv 324508639, rv b552] [(.int 1), (.ref b552)])) rfl rfl (hb hby at_431) _) ?_
    refine og (fun _ => XS.iconst X563.here hx rfl (hb hby at_432)) ?_
    show OGets p e below _ (T563.setTop (mkF m 433 #[jv p0, sv, jv p1, sv, jv p2, sv, jv p3, sv, iv p4, iv p5, iv lA, iv hA, iv lB, iv hB, iv lC, iv hC, iv vA, iv vB, iv vC, iv oo, iv tt, iv iA, iv iA, iv iB, iv iC, rv b468, rv b482, rv b535, rv b540, jv (-6510615555426900571 : Int64), sv, rv b542, iv 324508639, rv b552] [(.int 1), (.int (gi DD (1 : Int32)))]))
    refine og (fun _ => XS.iload X563.here hx rfl (hb hby at_433) rfl) ?_
    refine og (fun _ => XS.iload X563.here hx rfl (hb hby at_435) rfl) ?_
    refine og (fun _ => XS.iload X563.here hx rfl (hb hby at_437) rfl) ?_
    refine og (fun _ => XS.iload X563.here hx rfl (hb hby at_439) rfl) ?_
    refine og (fun _ => XS.iload X563.here hx rfl (hb hby at_441) rfl) ?_
    refine og (fun _ => XS.iload X563.here hx rfl (hb hby at_443) rfl) ?_
    show OGets p e below _ (T563.setTop (mkF m 445 #[jv p0, sv, jv p1, sv, jv p2, sv, jv p3, sv, iv p4, iv p5, iv lA, iv hA, iv lB, iv hB, iv lC, iv hC, iv vA, iv vB, iv vC, iv oo, iv tt, iv iA, iv iA, iv iB, iv iC, rv b468, rv b482, rv b535, rv b540, jv (-6510615555426900571 : Int64), sv, rv b542, iv 324508639, rv b552] [(.int vB), (.int vA), (.int iC), (.int iB), (.int iA), (.int tt), (.int 1), (.int (gi DD (1 : Int32)))]))
    refine og (fun _ => XS.iload X563.here hx rfl (hb hby at_445) rfl) ?_
    refine og (fun _ => XS.iload X563.here hx rfl (hb hby at_447) rfl) ?_
    obtain ⟨_, _, ⟨T566, L566, k566, n566⟩, -, X566, ⟨Lc566, hQ566, l566, y566, z566⟩, st566⟩ := Jvm.LawKit.callS X563 hx (y := (⟨"com/example/inya/inya/StateLayoutUnpackPinLaw", "exp", "(IIIIIIIII)I"⟩ : MethodName)) hown (mvT hZ (ow hw 207 rfl)) (mvT hZ (ow hw 208 rfl)) (mvT hZ (ow hw 3 rfl)) (mvT hZ (ow hw 209 rfl)) (by decide) (backOf (W := 1) (rm_ex l Z a0 hw [] (1 : Int32) tt iA iB iC vA vB vC (324508639 : Int32) T561.heap n0  Z561 ) hZ (ow hw 209 rfl) (ow hw 3 rfl) (by decide) (by decide)) (g := (mkF m 449 #[jv p0, sv, jv p1, sv, jv p2, sv, jv p3, sv, iv p4, iv p5, iv lA, iv hA, iv lB, iv hB, iv lC, iv hC, iv vA, iv vB, iv vC, iv oo, iv tt, iv iA, iv iA, iv iB, iv iC, rv b468, rv b482, rv b535, rv b540, jv (-6510615555426900571 : Int64), sv, rv b542, iv 324508639, rv b552] [(.int 324508639), (.int vC), (.int vB), (.int vA), (.int iC), (.int iB), (.int iA), (.int tt), (.int 1), (.int (gi DD (1 : Int32)))])) rfl (by rw [hml]; rfl) (argsL := [(.int 1), (.int tt), (.int iA), (.int iB), (.int iC), (.int vA), (.int vB), (.int vC), (.int 324508639)]) (rest := [(.int (gi DD (1 : Int32)))]) (lenOf pd_35 rfl) rfl (by show 2 * 0 + _ ≤ _; exact Nat.le_of_eq rfl) (hb hby at_449) (fun _ _ => ⟨rfl, e563, nb rfl, nb rfl⟩)
    dsimp only [Pt.U, Pt.locs, Pt.cells, Pt.slots] at X566 l566 y566 z566 st566 hQ566
    rw [l566, y566, z566] at X566
    obtain ⟨rfl, rfl, e566⟩ := hQ566
    have N566 := Fr.app N563 (Fr.nil n0)
    refine og st566 ?_
    refine og (fun _ => XS.icmpNo X566.here hx rfl (hb hby at_452) rfl (teq (hf.2.1 : (gi DD (1 : Int32)) = (f_ex (1 : Int32) tt iA iB iC vA vB vC (324508639 : Int32)))).2) ?_
    refine og (fun _ => XS.aload X566.here hx rfl (hb hby at_455) rfl rfl) ?_
    refine og (fun _ => XS.iconst X566.here hx rfl (hb hby at_457)) ?_
    obtain ⟨cl568, Ar568, S568⟩ := V561v.arr 7 rfl
    refine og (fun _ => X566.iaload hx (j := (2 : Int32)) (v := (.int (gi DD (2 : Int32)))) (by rw [e566]; exact Ar568.1) (State.isArrayOf_alike hZ.alike Ar568.2.1) Ar568.2.2 (own_sin (n := 7) S568 (by simp only [List.length_map, si_len, sj_len, List.length_replicate, lDD]) (by decide)) (own_sgetI (n := 7) S568 (by simp only [List.length_map, si_len, sj_len, List.length_replicate, lDD]) (by decide)) (g := (mkF m 458 #[jv p0, sv, jv p1, sv, jv p2, sv, jv p3, sv, iv p4, iv p5, iv lA, iv hA, iv lB, iv hB, iv lC, iv hC, iv vA, iv vB, iv vC, iv oo, iv tt, iv iA, iv iA, iv iB, iv iC, rv b468, rv b482, rv b535, rv b540, jv (-6510615555426900571 : Int64), sv, rv b542, iv 324508639, rv b552] [(.int 2), (.ref b552)])) rfl rfl (hb hby at_458) _) ?_
    refine og (fun _ => XS.iconst X566.here hx rfl (hb hby at_459)) ?_
    show OGets p e below _ (T566.setTop (mkF m 460 #[jv p0, sv, jv p1, sv, jv p2, sv, jv p3, sv, iv p4, iv p5, iv lA, iv hA, iv lB, iv hB, iv lC, iv hC, iv vA, iv vB, iv vC, iv oo, iv tt, iv iA, iv iA, iv iB, iv iC, rv b468, rv b482, rv b535, rv b540, jv (-6510615555426900571 : Int64), sv, rv b542, iv 324508639, rv b552] [(.int 2), (.int (gi DD (2 : Int32)))]))
    refine og (fun _ => XS.iload X566.here hx rfl (hb hby at_460) rfl) ?_
    refine og (fun _ => XS.iload X566.here hx rfl (hb hby at_462) rfl) ?_
    refine og (fun _ => XS.iload X566.here hx rfl (hb hby at_464) rfl) ?_
    refine og (fun _ => XS.iload X566.here hx rfl (hb hby at_466) rfl) ?_
    refine og (fun _ => XS.iload X566.here hx rfl (hb hby at_468) rfl) ?_
    refine og (fun _ => XS.iload X566.here hx rfl (hb hby at_470) rfl) ?_
    show OGets p e below _ (T566.setTop (mkF m 472 #[jv p0, sv, jv p1, sv, jv p2, sv, jv p3, sv, iv p4, iv p5, iv lA, iv hA, iv lB, iv hB, iv lC, iv hC, iv vA, iv vB, iv vC, iv oo, iv tt, iv iA, iv iA, iv iB, iv iC, rv b468, rv b482, rv b535, rv b540, jv (-6510615555426900571 : Int64), sv, rv b542, iv 324508639, rv b552] [(.int vB), (.int vA), (.int iC), (.int iB), (.int iA), (.int tt), (.int 2), (.int (gi DD (2 : Int32)))]))
    refine og (fun _ => XS.iload X566.here hx rfl (hb hby at_472) rfl) ?_
    refine og (fun _ => XS.iload X566.here hx rfl (hb hby at_474) rfl) ?_
    obtain ⟨_, _, ⟨T569, L569, k569, n569⟩, -, X569, ⟨Lc569, hQ569, l569, y569, z569⟩, st569⟩ := Jvm.LawKit.callS X566 hx (y := (⟨"com/example/inya/inya/StateLayoutUnpackPinLaw", "exp", "(IIIIIIIII)I"⟩ : MethodName)) hown (mvT hZ (ow hw 207 rfl)) (mvT hZ (ow hw 208 rfl)) (mvT hZ (ow hw 3 rfl)) (mvT hZ (ow hw 209 rfl)) (by decide) (backOf (W := 1) (rm_ex l Z a0 hw [] (2 : Int32) tt iA iB iC vA vB vC (324508639 : Int32) T561.heap n0  Z561 ) hZ (ow hw 209 rfl) (ow hw 3 rfl) (by decide) (by decide)) (g := (mkF m 476 #[jv p0, sv, jv p1, sv, jv p2, sv, jv p3, sv, iv p4, iv p5, iv lA, iv hA, iv lB, iv hB, iv lC, iv hC, iv vA, iv vB, iv vC, iv oo, iv tt, iv iA, iv iA, iv iB, iv iC, rv b468, rv b482, rv b535, rv b540, jv (-6510615555426900571 : Int64), sv, rv b542, iv 324508639, rv b552] [(.int 324508639), (.int vC), (.int vB), (.int vA), (.int iC), (.int iB), (.int iA), (.int tt), (.int 2), (.int (gi DD (2 : Int32)))])) rfl (by rw [hml]; rfl) (argsL := [(.int 2), (.int tt), (.int iA), (.int iB), (.int iC), (.int vA), (.int vB), (.int vC), (.int 324508639)]) (rest := [(.int (gi DD (2 : Int32)))]) (lenOf pd_35 rfl) rfl (by show 2 * 0 + _ ≤ _; exact Nat.le_of_eq rfl) (hb hby at_476) (fun _ _ => ⟨rfl, e566, nb rfl, nb rfl⟩)
    dsimp only [Pt.U, Pt.locs, Pt.cells, Pt.slots] at X569 l569 y569 z569 st569 hQ569
    rw [l569, y569, z569] at X569
    obtain ⟨rfl, rfl, e569⟩ := hQ569
    have N569 := Fr.app N566 (Fr.nil n0)
    refine og st569 ?_
    refine og (fun _ => XS.icmpNo X569.here hx rfl (hb hby at_479) rfl (teq (hf.2.2.1 : (gi DD (2 : Int32)) = (f_ex (2 : Int32) tt iA iB iC vA vB vC (324508639 : Int32)))).2) ?_
    refine og (fun _ => XS.aload X569.here hx rfl (hb hby at_482) rfl rfl) ?_
    refine og (fun _ => XS.iconst X569.here hx rfl (hb hby at_484)) ?_
    obtain ⟨cl571, Ar571, S571⟩ := V561v.arr 7 rfl
    refine og (fun _ => X569.iaload hx (j := (3 : Int32)) (v := (.int (gi DD (3 : Int32)))) (by rw [e569]; exact Ar571.1) (State.isArrayOf_alike hZ.alike Ar571.2.1) Ar571.2.2 (own_sin (n := 7) S571 (by simp only [List.length_map, si_len, sj_len, List.length_replicate, lDD]) (by decide)) (own_sgetI (n := 7) S571 (by simp only [List.length_map, si_len, sj_len, List.length_replicate, lDD]) (by decide)) (g := (mkF m 485 #[jv p0, sv, jv p1, sv, jv p2, sv, jv p3, sv, iv p4, iv p5, iv lA, iv hA, iv lB, iv hB, iv lC, iv hC, iv vA, iv vB, iv vC, iv oo, iv tt, iv iA, iv iA, iv iB, iv iC, rv b468, rv b482, rv b535, rv b540, jv (-6510615555426900571 : Int64), sv, rv b542, iv 324508639, rv b552] [(.int 3), (.ref b552)])) rfl rfl (hb hby at_485) _) ?_
    refine og (fun _ => XS.iconst X569.here hx rfl (hb hby at_486)) ?_
    show OGets p e below _ (T569.setTop (mkF m 487 #[jv p0, sv, jv p1, sv, jv p2, sv, jv p3, sv, iv p4, iv p5, iv lA, iv hA, iv lB, iv hB, iv lC, iv hC, iv vA, iv vB, iv vC, iv oo, iv tt, iv iA, iv iA, iv iB, iv iC, rv b468, rv b482, rv b535, rv b540, jv (-6510615555426900571 : Int64), sv, rv b542, iv 324508639, rv b552] [(.int 3), (.int (gi DD (3 : Int32)))]))
    refine og (fun _ => XS.iload X569.here hx rfl (hb hby at_487) rfl) ?_
    refine og (fun _ => XS.iload X569.here hx rfl (hb hby at_489) rfl) ?_
    refine og (fun _ => XS.iload X569.here hx rfl (hb hby at_491) rfl) ?_
    refine og (fun _ => XS.iload X569.here hx rfl (hb hby at_493) rfl) ?_
    refine og (fun _ => XS.iload X569.here hx rfl (hb hby at_495) rfl) ?_
    refine og (fun _ => XS.iload X569.here hx rfl (hb hby at_497) rfl) ?_
    show OGets p e below _ (T569.setTop (mkF m 499 #[jv p0, sv, jv p1, sv, jv p2, sv, jv p3, sv, iv p4, iv p5, iv lA, iv hA, iv lB, iv hB, iv lC, iv hC, iv vA, iv vB, iv vC, iv oo, iv tt, iv iA, iv iA, iv iB, iv iC, rv b468, rv b482, rv b535, rv b540, jv (-6510615555426900571 : Int64), sv, rv b542, iv 324508639, rv b552] [(.int vB), (.int vA), (.int iC), (.int iB), (.int iA), (.int tt), (.int 3), (.int (gi DD (3 : Int32)))]))
    refine og (fun _ => XS.iload X569.here hx rfl (hb hby at_499) rfl) ?_
    refine og (fun _ => XS.iload X569.here hx rfl (hb hby at_501) rfl) ?_
    obtain ⟨_, _, ⟨T572, L572, k572, n572⟩, -, X572, ⟨Lc572, hQ572, l572, y572, z572⟩, st572⟩ := Jvm.LawKit.callS X569 hx (y := (⟨"com/example/inya/inya/StateLayoutUnpackPinLaw", "exp", "(IIIIIIIII)I"⟩ : MethodName)) hown (mvT hZ (ow hw 207 rfl)) (mvT hZ (ow hw 208 rfl)) (mvT hZ (ow hw 3 rfl)) (mvT hZ (ow hw 209 rfl)) (by decide) (backOf (W := 1) (rm_ex l Z a0 hw [] (3 : Int32) tt iA iB iC vA vB vC (324508639 : Int32) T561.heap n0  Z561 ) hZ (ow hw 209 rfl) (ow hw 3 rfl) (by decide) (by decide)) (g := (mkF m 503 #[jv p0, sv, jv p1, sv, jv p2, sv, jv p3, sv, iv p4, iv p5, iv lA, iv hA, iv lB, iv hB, iv lC, iv hC, iv vA, iv vB, iv vC, iv oo, iv tt, iv iA, iv iA, iv iB, iv iC, rv b468, rv b482, rv b535, rv b540, jv (-6510615555426900571 : Int64), sv, rv b542, iv 324508639, rv b552] [(.int 324508639), (.int vC), (.int vB), (.int vA), (.int iC), (.int iB), (.int iA), (.int tt), (.int 3), (.int (gi DD (3 : Int32)))])) rfl (by rw [hml]; rfl) (argsL := [(.int 3), (.int tt), (.int iA), (.int iB), (.int iC), (.int vA), (.int vB), (.int vC), (.int 324508639)]) (rest := [(.int (gi DD (3 : Int32)))]) (lenOf pd_35 rfl) rfl (by show 2 * 0 + _ ≤ _; exact Nat.le_of_eq rfl) (hb hby at_503) (fun _ _ => ⟨rfl, e569, nb rfl, nb rfl⟩)
    dsimp only [Pt.U, Pt.locs, Pt.cells, Pt.slots] at X572 l572 y572 z572 st572 hQ572
    rw [l572, y572, z572] at X572
    obtain ⟨rfl, rfl, e572⟩ := hQ572
    have N572 := Fr.app N569 (Fr.nil n0)
    refine og st572 ?_
    refine og (fun _ => XS.icmpNo X572.here hx rfl (hb hby at_506) rfl (teq (hf.2.2.2.1 : (gi DD (3 : Int32)) = (f_ex (3 : Int32) tt iA iB iC vA vB vC (324508639 : Int32)))).2) ?_
    refine og (fun _ => XS.aload X572.here hx rfl (hb hby at_509) rfl rfl) ?_
    refine og (fun _ => XS.iconst X572.here hx rfl (hb hby at_511)) ?_
    obtain ⟨cl574, Ar574, S574⟩ := V561v.arr 7 rfl
    refine og (fun _ => X572.iaload hx (j := (4 : Int32)) (v := (.int (gi DD (4 : Int32)))) (by rw [e572]; exact Ar574.1) (State.isArrayOf_alike hZ.alike Ar574.2.1) Ar574.2.2 (own_sin (n := 7) S574 (by simp only [List.length_map, si_len, sj_len, List.length_replicate, lDD]) (by decide)) (own_sgetI (n := 7) S574 (by simp only [List.length_map, si_len, sj_len, List.length_replicate, lDD]) (by decide)) (g := (mkF m 512 #[jv p0, sv, jv p1, sv, jv p2, sv, jv p3, sv, iv p4, iv p5, iv lA, iv hA, iv lB, iv hB, iv lC, iv hC, iv vA, iv vB, iv vC, iv oo, iv tt, iv iA, iv iA, iv iB, iv iC, rv b468, rv b482, rv b535, rv b540, jv (-6510615555426900571 : Int64), sv, rv b542, iv 324508639, rv b552] [(.int 4), (.ref b552)])) rfl rfl (hb hby at_512) _) ?_
    refine og (fun _ => XS.iconst X572.here hx rfl (hb hby at_513)) ?_
    show OGets p e below _ (T572.setTop (mkF m 514 #[jv p0, sv, jv p1, sv, jv p2, sv, jv p3, sv, iv p4, iv p5, iv lA, iv hA, iv lB, iv hB, iv lC, iv hC, iv vA, iv vB, iv vC, iv oo, iv tt, iv iA, iv iA, iv iB, iv iC, rv b468, rv b482, rv b535, rv b540, jv (-6510615555426900571 : Int64), sv, rv b542, iv 324508639, rv b552] [(.int 4), (.int (gi DD (4 : Int32)))]))
    refine og (fun _ => XS.iload X572.here hx rfl (hb hby at_514) rfl) ?_
    refine og (fun _ => XS.iload X572.here hx rfl (hb hby at_516) rfl) ?_
    refine og (fun _ => XS.iload X572.here hx rfl (hb hby at_518) rfl) ?_
    refine og (fun _ => XS.iload X572.here hx rfl (hb hby at_520) rfl) ?_
    refine og (fun _ => XS.iload X572.here hx rfl (hb hby at_522) rfl) ?_
    refine og (fun _ => XS.iload X572.here hx rfl (hb hby at_524) rfl) ?_
    show OGets p e below _ (T572.setTop (mkF m 526 #[jv p0, sv, jv p1, sv, jv p2, sv, jv p3, sv, iv p4, iv p5, iv lA, iv hA, iv lB, iv hB, iv lC, iv hC, iv vA, iv vB, iv vC, iv oo, iv tt, iv iA, iv iA, iv iB, iv iC, rv b468, rv b482, rv b535, rv b540, jv (-6510615555426900571 : Int64), sv, rv b542, iv 324508639, rv b552] [(.int vB), (.int vA), (.int iC), (.int iB), (.int iA), (.int tt), (.int 4), (.int (gi DD (4 : Int32)))]))
    refine og (fun _ => XS.iload X572.here hx rfl (hb hby at_526) rfl) ?_
    refine og (fun _ => XS.iload X572.here hx rfl (hb hby at_528) rfl) ?_
    obtain ⟨_, _, ⟨T575, L575, k575, n575⟩, -, X575, ⟨Lc575, hQ575, l575, y575, z575⟩, st575⟩ := Jvm.LawKit.callS X572 hx (y := (⟨"com/example/inya/inya/StateLayoutUnpackPinLaw", "exp", "(IIIIIIIII)I"⟩ : MethodName)) hown (mvT hZ (ow hw 207 rfl)) (mvT hZ (ow hw 208 rfl)) (mvT hZ (ow hw 3 rfl)) (mvT hZ (ow hw 209 rfl)) (by decide) (backOf (W := 1) (rm_ex l Z a0 hw [] (4 : Int32) tt iA iB iC vA vB vC (324508639 : Int32) T561.heap n0  Z561 ) hZ (ow hw 209 rfl) (ow hw 3 rfl) (by decide) (by decide)) (g := (mkF m 530 #[jv p0, sv, jv p1, sv, jv p2, sv, jv p3, sv, iv p4, iv p5, iv lA, iv hA, iv lB, iv hB, iv lC, iv hC, iv vA, iv vB, iv vC, iv oo, iv tt, iv iA, iv iA, iv iB, iv iC, rv b468, rv b482, rv b535, rv b540, jv (-6510615555426900571 : Int64), sv, rv b542, iv 324508639, rv b552] [(.int 324508639), (.int vC), (.int vB), (.int vA), (.int iC), (.int iB), (.int iA), (.int tt), (.int 4), (.int (gi DD (4 : Int32)))])) rfl (by rw [hml]; rfl) (argsL := [(.int 4), (.int tt), (.int iA), (.int iB), (.int iC), (.int vA), (.int vB), (.int vC), (.int 324508639)]) (rest := [(.int (gi DD (4 : Int32)))]) (lenOf pd_35 rfl) rfl (by show 2 * 0 + _ ≤ _; exact Nat.le_of_eq rfl) (hb hby at_530) (fun _ _ => ⟨rfl, e572, nb rfl, nb rfl⟩)
    dsimp only [Pt.U, Pt.locs, Pt.cells, Pt.slots] at X575 l575 y575 z575 st575 hQ575
    rw [l575, y575, z575] at X575
    obtain ⟨rfl, rfl, e575⟩ := hQ575
    have N575 := Fr.app N572 (Fr.nil n0)
    refine og st575 ?_
    refine og (fun _ => XS.icmpNo X575.here hx rfl (hb hby at_533) rfl (teq (hf.2.2.2.2.1 : (gi DD (4 : Int32)) = (f_ex (4 : Int32) tt iA iB iC vA vB vC (324508639 : Int32)))).2) ?_
    refine og (fun _ => XS.aload X575.here hx rfl (hb hby at_536) rfl rfl) ?_
    refine og (fun _ => XS.iconst X575.here hx rfl (hb hby at_538)) ?_
    obtain ⟨cl577, Ar577, S577⟩ := V561v.arr 7 rfl
    refine og (fun _ => X575.iaload hx (j := (5 : Int32)) (v := (.int (gi DD (5 : Int32)))) (by rw [e575]; exact Ar577.1) (State.isArrayOf_alike hZ.alike Ar577.2.1) Ar577.2.2 (own_sin (n := 7) S577 (by simp only [List.length_map, si_len, sj_len, List.length_replicate, lDD]) (by decide)) (own_sgetI (n := 7) S577 (by simp only [List.length_map, si_len, sj_len, List.length_replicate, lDD]) (by decide)) (g := (mkF m 539 #[jv p0, sv, jv p1, sv, jv p2, sv, jv p3, sv, iv p4, iv p5, iv lA, iv hA, iv lB, iv hB, iv lC, iv hC, iv vA, iv vB, iv vC, iv oo, iv tt, iv iA, iv iA, iv iB, iv iC, rv b468, rv b482, rv b535, rv b540, jv (-6510615555426900571 : Int64), sv, rv b542, iv 324508639, rv b552] [(.int 5), (.ref b552)])) rfl rfl (hb hby at_539) _) ?_
    refine og (fun _ => XS.iconst X575.here hx rfl (hb hby at_540)) ?_
    show OGets p e below _ (T575.setTop (mkF m 541 #[jv p0, sv, jv p1, sv, jv p2, sv, jv p3, sv, iv p4, iv p5, iv lA, iv hA, iv lB, iv hB, iv lC, iv hC, iv vA, iv vB, iv vC, iv oo, iv tt, iv iA, iv iA, iv iB, iv iC, rv b468, rv b482, rv b535, rv b540, jv (-6510615555426900571 : Int64), sv, rv b542, iv 324508639, rv b552] [(.int 5), (.int (gi DD (5 : Int32)))]))
    refine og (fun _ => XS.iload X575.here hx rfl (hb hby at_541) rfl) ?_
    refine og (fun _ => XS.iload X575.here hx rfl (hb hby at_543) rfl) ?_
    refine og (fun _ => XS.iload X575.here hx rfl (hb hby at_545) rfl) ?_
    refine og (fun _ => XS.iload X575.here hx rfl (hb hby at_547) rfl) ?_
    refine og (fun _ => XS.iload X575.here hx rfl (hb hby at_549) rfl) ?_
    refine og (fun _ => XS.iload X575.here hx rfl (hb hby at_551) rfl) ?_
    show OGets p e below _ (T575.setTop (mkF m 553 #[jv p0, sv, jv p1, sv, jv p2, sv, jv p3, sv, iv p4, iv p5, iv lA, iv hA, iv lB, iv hB, iv lC, iv hC, iv vA, iv vB, iv vC, iv oo, iv tt, iv iA, iv iA, iv iB, iv iC, rv b468, rv b482, rv b535, rv b540, jv (-6510615555426900571 : Int64), sv, rv b542, iv 324508639, rv b552] [(.int vB), (.int vA), (.int iC), (.int iB), (.int iA), (.int tt), (.int 5), (.int (gi DD (5 : Int32)))]))
    refine og (fun _ => XS.iload X575.here hx rfl (hb hby at_553) rfl) ?_
    refine og (fun _ => XS.iload X575.here hx rfl (hb hby at_555) rfl) ?_
    obtain ⟨_, _, ⟨T578, L578, k578, n578⟩, -, X578, ⟨Lc578, hQ578, l578, y578, z578⟩, st578⟩ := Jvm.LawKit.callS X575 hx (y := (⟨"com/example/inya/inya/StateLayoutUnpackPinLaw", "exp", "(IIIIIIIII)I"⟩ : MethodName)) hown (mvT hZ (ow hw 207 rfl)) (mvT hZ (ow hw 208 rfl)) (mvT hZ (ow hw 3 rfl)) (mvT hZ (ow hw 209 rfl)) (by decide) (backOf (W := 1) (rm_ex l Z a0 hw [] (5 : Int32) tt iA iB iC vA vB vC (324508639 : Int32) T561.heap n0  Z561 ) hZ (ow hw 209 rfl) (ow hw 3 rfl) (by decide) (by decide)) (g := (mkF m 557 #[jv p0, sv, jv p1, sv, jv p2, sv, jv p3, sv, iv p4, iv p5, iv lA, iv hA, iv lB, iv hB, iv lC, iv hC, iv vA, iv vB, iv vC, iv oo, iv tt, iv iA, iv iA, iv iB, iv iC, rv b468, rv b482, rv b535, rv b540, jv (-6510615555426900571 : Int64), sv, rv b542, iv 324508639, rv b552] [(.int 324508639), (.int vC), (.int vB), (.int vA), (.int iC), (.int iB), (.int iA), (.int tt), (.int 5), (.int (gi DD (5 : Int32)))])) rfl (by rw [hml]; rfl) (argsL := [(.int 5), (.int tt), (.int iA), (.int iB), (.int iC), (.int vA), (.int vB), (.int vC), (.int 324508639)]) (rest := [(.int (gi DD (5 : Int32)))]) (lenOf pd_35 rfl) rfl (by show 2 * 0 + _ ≤ _; exact Nat.le_of_eq rfl) (hb hby at_557) (fun _ _ => ⟨rfl, e575, nb rfl, nb rfl⟩)
    dsimp only [Pt.U, Pt.locs, Pt.cells, Pt.slots] at X578 l578 y578 z578 st578 hQ578
    rw [l578, y578, z578] at X578
    obtain ⟨rfl, rfl, e578⟩ := hQ578
    have N578 := Fr.app N575 (Fr.nil n0)
    refine og st578 ?_
    refine og (fun _ => XS.icmpNo X578.here hx rfl (hb hby at_560) rfl (teq (hf.2.2.2.2.2.1 : (gi DD (5 : Int32)) = (f_ex (5 : Int32) tt iA iB iC vA vB vC (324508639 : Int32)))).2) ?_
    refine og (fun _ => XS.aload X578.here hx rfl (hb hby at_563) rfl rfl) ?_
    refine og (fun _ => XS.bipush X578.here hx rfl (hb hby at_565)) ?_
    obtain ⟨cl580, Ar580, S580⟩ := V561v.arr 7 rfl
    refine og (fun _ => X578.iaload hx (j := (6 : Int32)) (v := (.int (gi DD (6 : Int32)))) (by rw [e578]; exact Ar580.1) (State.isArrayOf_alike hZ.alike Ar580.2.1) Ar580.2.2 (own_sin (n := 7) S580 (by simp only [List.length_map, si_len, sj_len, List.length_replicate, lDD]) (by decide)) (own_sgetI (n := 7) S580 (by simp only [List.length_map, si_len, sj_len, List.length_replicate, lDD]) (by decide)) (g := (mkF m 567 #[jv p0, sv, jv p1, sv, jv p2, sv, jv p3, sv, iv p4, iv p5, iv lA, iv hA, iv lB, iv hB, iv lC, iv hC, iv vA, iv vB, iv vC, iv oo, iv tt, iv iA, iv iA, iv iB, iv iC, rv b468, rv b482, rv b535, rv b540, jv (-6510615555426900571 : Int64), sv, rv b542, iv 324508639, rv b552] [(.int 6), (.ref b552)])) rfl rfl (hb hby at_567) _) ?_
    refine og (fun _ => XS.bipush X578.here hx rfl (hb hby at_568)) ?_
    show OGets p e below _ (T578.setTop (mkF m 570 #[jv p0, sv, jv p1, sv, jv p2, sv, jv p3, sv, iv p4, iv p5, iv lA, iv hA, iv lB, iv hB, iv lC, iv hC, iv vA, iv vB, iv vC, iv oo, iv tt, iv iA, iv iA, iv iB, iv iC, rv b468, rv b482, rv b535, rv b540, jv (-6510615555426900571 : Int64), sv, rv b542, iv 324508639, rv b552] [(.int 6), (.int (gi DD (6 : Int32)))]))
    refine og (fun _ => XS.iload X578.here hx rfl (hb hby at_570) rfl) ?_
    refine og (fun _ => XS.iload X578.here hx rfl (hb hby at_572) rfl) ?_
    refine og (fun _ => XS.iload X578.here hx rfl (hb hby at_574) rfl) ?_
    refine og (fun _ => XS.iload X578.here hx rfl (hb hby at_576) rfl) ?_
    refine og (fun _ => XS.iload X578.here hx rfl (hb hby at_578) rfl) ?_
    refine og (fun _ => XS.iload X578.here hx rfl (hb hby at_580) rfl) ?_
    show OGets p e below _ (T578.setTop (mkF m 582 #[jv p0, sv, jv p1, sv, jv p2, sv, jv p3, sv, iv p4, iv p5, iv lA, iv hA, iv lB, iv hB, iv lC, iv hC, iv vA, iv vB, iv vC, iv oo, iv tt, iv iA, iv iA, iv iB, iv iC, rv b468, rv b482, rv b535, rv b540, jv (-6510615555426900571 : Int64), sv, rv b542, iv 324508639, rv b552] [(.int vB), (.int vA), (.int iC), (.int iB), (.int iA), (.int tt), (.int 6), (.int (gi DD (6 : Int32)))]))
    refine og (fun _ => XS.iload X578.here hx rfl (hb hby at_582) rfl) ?_
    refine og (fun _ => XS.iload X578.here hx rfl (hb hby at_584) rfl) ?_
    obtain ⟨_, _, ⟨T581, L581, k581, n581⟩, -, X581, ⟨Lc581, hQ581, l581, y581, z581⟩, st581⟩ := Jvm.LawKit.callS X578 hx (y := (⟨"com/example/inya/inya/StateLayoutUnpackPinLaw", "exp", "(IIIIIIIII)I"⟩ : MethodName)) hown (mvT hZ (ow hw 207 rfl)) (mvT hZ (ow hw 208 rfl)) (mvT hZ (ow hw 3 rfl)) (mvT hZ (ow hw 209 rfl)) (by decide) (backOf (W := 1) (rm_ex l Z a0 hw [] (6 : Int32) tt iA iB iC vA vB vC (324508639 : Int32) T561.heap n0  Z561 ) hZ (ow hw 209 rfl) (ow hw 3 rfl) (by decide) (by decide)) (g := (mkF m 586 #[jv p0, sv, jv p1, sv, jv p2, sv, jv p3, sv, iv p4, iv p5, iv lA, iv hA, iv lB, iv hB, iv lC, iv hC, iv vA, iv vB, iv vC, iv oo, iv tt, iv iA, iv iA, iv iB, iv iC, rv b468, rv b482, rv b535, rv b540, jv (-6510615555426900571 : Int64), sv, rv b542, iv 324508639, rv b552] [(.int 324508639), (.int vC), (.int vB), (.int vA), (.int iC), (.int iB), (.int iA), (.int tt), (.int 6), (.int (gi DD (6 : Int32)))])) rfl (by rw [hml]; rfl) (argsL := [(.int 6), (.int tt), (.int iA), (.int iB), (.int iC), (.int vA), (.int vB), (.int vC), (.int 324508639)]) (rest := [(.int (gi DD (6 : Int32)))]) (lenOf pd_35 rfl) rfl (by show 2 * 0 + _ ≤ _; exact Nat.le_of_eq rfl) (hb hby at_586) (fun _ _ => ⟨rfl, e578, nb rfl, nb rfl⟩)
    dsimp only [Pt.U, Pt.locs, Pt.cells, Pt.slots] at X581 l581 y581 z581 st581 hQ581
    rw [l581, y581, z581] at X581
    obtain ⟨rfl, rfl, e581⟩ := hQ581
    have N581 := Fr.app N578 (Fr.nil n0)
    refine og st581 ?_
    refine og (fun _ => XS.icmpNo X581.here hx rfl (hb hby at_589) rfl (teq (hf.2.2.2.2.2.2 : (gi DD (6 : Int32)) = (f_ex (6 : Int32) tt iA iB iC vA vB vC (324508639 : Int32)))).2) ?_
    refine og (fun _ => XS.iconst X581.here hx rfl (hb hby at_592)) ?_
    refine og (fun _ => XS.goto X581.here hx rfl (pc0 := 593) (pc' := 597) rfl (hb hby at_593) (by decide) (by decide)) ?_
    refine OGets.retN X581 hx hlk (t := .boolean) Bd.returns (by simp) (hb hby at_597) (nb rfl) (nb rfl) ?_
    exact ⟨rfl, N581⟩
set_option maxRecDepth 65536 in
set_option maxHeartbeats 40000000 in
theorem comes_1 {Post : Tables → Env → Array Value → State → Outcome → State → Prop} (hpost : ∀ tb e args s v u, (limb_1_1.after args s (.returned v) u = true ∧ limb_1_2.after args s (.returned v) u = true ∧ True) → FrameEnd s (.returned v) u (Jvm.fieldLocs frame_1_writes args s ++ Jvm.arrayLocs frame_1_arrays args s ++ Jvm.staticLocs frame_1_statics s) 48 256 → Post tb e args s (.returned v) u) :
    ArmFor flags0 classFile x code maxLocals ret World_1 tables_1 room_1 Calls_1 rest_1 Pre_1 Post := by
  intro l hfl _ _ p e ha hc hk s m args below hf hA hF happ hP
  obtain ⟨hcalls, hrest, hpre⟩ := hP
  obtain ⟨-, -, -, hnamed, -, -, -, hat⟩ := (Spec.applies_iff hf).mp happ
  obtain ⟨hg, hn⟩ := and_e (Cond.before_iff.mp (show (Jvm.Cond.and given_1 narrow_1).before args s = true from hpre))
  obtain ⟨hcount, hg0⟩ := and_e hg
  obtain ⟨ga0, hg1⟩ := and_e hg0
  obtain ⟨ga1, hg2⟩ := and_e hg1
  obtain ⟨ga2, hg3⟩ := and_e hg2
  obtain ⟨ga3, hg4⟩ := and_e hg3
  obtain ⟨ga4, hg5⟩ := and_e hg4
  have ga5 := hg5
  obtain ⟨w0, w1, w2, w3, w4, w5, rfl⟩ : ∃ w0 w1 w2 w3 w4 w5 : Value, args = #[w0, w1, w2, w3, w4, w5] := by
    have hs : args.size = 6 := by simpa [Cond.value, given_1] using hcount
    obtain ⟨L⟩ := args
    match L, hs with
    | [w0, w1, w2, w3, w4, w5], _ => exact ⟨w0, w1, w2, w3, w4, w5, rfl⟩
  have hw := fun d (hd : d ∈ tables_1) => atoms_spec (ws := Jvm.Cond.code x code maxLocals ret :: tables_1) hat d (List.mem_cons_of_mem _ hd)
  have hfit : Fit s := fun {y c} hc i hi => by
    obtain ⟨ha, rfl⟩ := Array.getElem?_eq_some_iff.mp hc
    have q := List.all_eq_true.mp ((Array.all_eq_true_iff_forall_mem.mp hF) _ (Array.getElem_mem ha)) i (List.mem_range.mpr hi)
    simpa [Array.getElem?_eq_getElem hi] using q
  obtain ⟨i0, ei0⟩ := isL_v ga0
  obtain rfl : w0 = (.long i0) := Option.some.inj ei0
  obtain ⟨i1, ei1⟩ := isL_v ga1
  obtain rfl : w1 = (.long i1) := Option.some.inj ei1
  obtain ⟨i2, ei2⟩ := isL_v ga2
  obtain rfl : w2 = (.long i2) := Option.some.inj ei2
  obtain ⟨i3, ei3⟩ := isL_v ga3
  obtain rfl : w3 = (.long i3) := Option.some.inj ei3
  obtain ⟨i4, ei4⟩ := is_v ga4
  obtain rfl : w4 = (.int i4) := Option.some.inj ei4
  obtain ⟨i5, ei5⟩ := is_v ga5
  obtain rfl : w5 = (.int i5) := Option.some.inj ei5
  obtain ⟨hsets, hown0⟩ := atoms_of _ (rest_1_c_eq ▸ (show rest_1_c.before _ s = true from hrest))
  have q6 := Cond.before_iff.mp (hsets _ (List.mem_of_getElem? (i := 6) rfl))
  obtain ⟨dS, eD⟩ := arr_v q6
  obtain ⟨clS, A00⟩ := Arr.start eD q6
  have S0 : Sta s s.heap "java/util/ArrayList" "DEFAULTCAPACITY_EMPTY_ELEMENTDATA" "[Ljava/lang/Object;" (.ref dS) := Sta.start eD (Or.inr ⟨(ow hw 11 rfl), (hsets _ (List.mem_of_getElem? (i := 2) rfl))⟩)
  have q8 := Cond.before_iff.mp (hsets _ (List.mem_of_getElem? (i := 8) rfl))
  have hzS : clS.slots.size.toInt32 = (0 : Int32) := by
    obtain ⟨xl, yl, hl1, hl2, -, -⟩ := cmp_v (Or.inl q8)
    obtain ⟨a2, c2, hl3, hl4, hl5⟩ := Term.length_spec hl1
    cases hl3.symm.trans eD
    cases hl4.symm.trans (A00.fin (Vm.Alike.refl _))
    subst hl5
    exact gotT (Cond.eq_ints hl1 (Term.int_eval (0))) q8
  obtain ⟨n, o, h1, h2, h3, _, L, rfl, ⟨rfl, N⟩, hq⟩ := rm_law l s _ hw tables_1 i0 i1 i2 i3 i4 i5 dS clS s.heap s.heap.size (Nat.le_refl _) S0 A00 hzS (OView.nil _ _ _) (Old.start s) p e ha hc hk s m _ below hf ((Spec.applies_iff_loose hf).mp happ).1 ⟨rfl, State.Warmed39.refl s, rfl⟩ trivial
  refine ⟨n, _, h1, h2, h3, hpost _ _ _ _ _ _ ⟨Cond.after_iff.mpr rfl, Cond.after_iff.mpr (eq_i res_at (Term.int_eval (1)) rfl), trivial⟩ ⟨hq.1, hq.2.1, (hq.2.2.sift fun y hy => Or.inr (N y hy)).mono (by decide) (by decide)⟩⟩
theorem main_1_1 : Claimed_1_1 := comes_1 fun _ _ _ _ _ _ h hF => ⟨h.1, hF⟩
theorem main_1_2 : Claimed_1_2 := comes_1 fun _ _ _ _ _ _ h hF => ⟨h.2.1, hF⟩
end Jvm.Pilot.@@N@@
namespace Jvm.Pilot.@@N@@
open Jvm Jvm.ClassFile Sem Op Lib Jvm.Free Jvm.Stand Jvm.Pilot.@@N@@.Jvm.D
/-! MADE BY PROGRAM (witnessworld.py) out of the Statement's table words and the real class files: 33 classes; the members and pool entries that the words name. The judged class is class 1, her method 4. -/
namespace start1
open Jvm.ClassFile
def u (s : String) : CpInfo := .utf8 (stringToUtf16 s)
/-- a pool by its gaps: so many unusable entries, then the entry; so many at the end -/
def gap : Nat → List CpInfo → List CpInfo
  | 0, r => r
  | n + 1, r => .unusable :: gap n r
def poolList (es : List (Nat × CpInfo)) (last : Nat) : List CpInfo := es.foldr (fun e r => gap e.1 (e.2 :: r)) (gap last [])
def pool (es : List (Nat × CpInfo)) (last : Nat) : Array CpInfo := ⟨poolList es last⟩
def fileOf (pool : Array CpInfo) (this : Nat) (attrs : Array Attribute := #[]) (ms : Array MethodInfo := #[]) (fl : Nat := 33) (sup : Nat := 0) (ifs : Array Nat := #[]) (fds : Array FieldInfo := #[]) : ClassFile where
  minorVersion := 0
  majorVersion := 65
  constantPool := pool
  accessFlags := fl
  thisClass := this
  superClass := sup
  interfaces := ifs
  fields := fds
  methods := ms
  attributes := attrs
def plain (name : String) (sup : Option ClassId) : Class where
  name := name
  kind := .ordinary
  loader := none
  accessFlags := 33
  super := sup
  interfaces := #[]
  cf := none
  fields := #[]
  methods := #[]
  instanceTypes := #[]
  staticTypes := #[]
  resolved := #[]
  callSites := []
  init := .initialized
  statics := none
  mirror := none

def pool0 : Array CpInfo := pool [(5, u "<init>"), (0, u "()V"), (1, .class_ 10), (1, u "java/lang/Object")] 113

def k0c0 : Code := { maxStack := 0, maxLocals := 1, code := object_method_1_code, exceptionTable := #[], attributes := #[] }
def k0m0 : Method := { name := "<init>", desc := "()V", sig := { parameters := [], returnType := none }, accessFlags := 1, code := some k0c0 }
/-- java/lang/Object -/
def k0 : Class := { plain "java/lang/Object" none with
  accessFlags := 33
  interfaces := #[]
  cf := some (fileOf pool0 8 #[] #[{ accessFlags := 1, nameIndex := 5, descriptorIndex := 6, attributes := #[] }] 33 0 #[] #[])
  fields := #[]
  methods := #[k0m0]
  instanceTypes := #[]
  staticTypes := #[]
  resolved := Array.replicate 124 none
  statics := none }

def pool1 : Array CpInfo := pool [(2, .class_ 4), (0, .nameAndType 5 6), (0, u "java/lang/Object"), (0, u "<init>"), (0, u "()V"), (2, .long 2147483647), (1, .long 4294967295), (1, .methodref 14 15), (0, .class_ 16), (0, .nameAndType 17 18), (0, u "com/example/inya/inya/StateLayoutUnpackPinLaw"), (0, u "hiOf"), (0, u "(IJ)I"), (0, .methodref 14 20), (0, .nameAndType 21 22), (0, u "pick"), (0, u "(IIJ)I"), (0, .class_ 24), (0, u "java/util/ArrayList"), (0, .methodref 23 3), (0, .class_ 27), (0, u "com/example/inya/inya/Variable"), (0, .methodref 29 30), (0, .class_ 31), (0, .nameAndType 32 33), (0, u "com/example/inya/inya/Domain"), (0, u "range"), (0, u "(II)Lcom/example/inya/inya/Domain;"), (0, .methodref 26 35), (0, .nameAndType 5 36), (0, u "(Ljava/lang/String;Lcom/example/inya/inya/Role;Lcom/example/inya/inya/Domain;ILcom/example/inya/inya/Position;)V"), (0, .methodref 23 38), (0, .nameAndType 39 40), (0, u "add"), (0, u "(Ljava/lang/Object;)Z"), (0, .class_ 42), (0, u "com/example/inya/inya/StateLayout"), (0, .methodref 41 44), (0, .nameAndType 5 45), (0, u "(Ljava/util/List;)V"), (0, .methodref 41 47), (0, .nameAndType 48 49), (0, u "pack"), (0, u "([I[J)V"), (0, .long 11936128518282651045), (1, .methodref 41 53), (0, .nameAndType 54 55), (0, u "words"), (0, u "()I"), (0, .integer 324508639), (0, .methodref 41 58), (0, .nameAndType 59 60), (0, u "unpack"), (0, u "([JI[II)V"), (0, .methodref 14 62), (0, .nameAndType 63 64), (0, u "exp"), (0, u "(IIIIIIIII)I"), (3, u "law"), (0, u "(JJJJII)Z")] 6

def k1m0 : Method := { name := "<init>", desc := "()V", sig := { parameters := [], returnType := none }, accessFlags := 1, code := none }
def k1c1 : Code := { maxStack := 4, maxLocals := 5, code := method_2_code, exceptionTable := #[], attributes := #[] }
def k1m1 : Method := { name := "hiOf", desc := "(IJ)I", sig := { parameters := [.int, .long], returnType := some .int }, accessFlags := 10, code := some k1c1 }
def k1c2 : Code := { maxStack := 6, maxLocals := 6, code := method_3_code, exceptionTable := #[], attributes := #[] }
def k1m2 : Method := { name := "pick", desc := "(IIJ)I", sig := { parameters := [.int, .int, .long], returnType := some .int }, accessFlags := 10, code := some k1c2 }
def k1c3 : Code := { maxStack := 3, maxLocals := 9, code := method_4_code, exceptionTable := #[], attributes := #[] }
def k1m3 : Method := { name := "exp", desc := "(IIIIIIIII)I", sig := { parameters := [.int, .int, .int, .int, .int, .int, .int, .int, .int], returnType := some .int }, accessFlags := 10, code := some k1c3 }
def k1c4 : Code := { maxStack := 10, maxLocals := 34, code := code, exceptionTable := #[], attributes := #[] }
def k1m4 : Method := { name := "law", desc := "(JJJJII)Z", sig := { parameters := [.long, .long, .long, .long, .int, .int], returnType := some .boolean }, accessFlags := 9, code := some k1c4 }
/-- com/example/inya/inya/StateLayoutUnpackPinLaw -/
def k1 : Class := { plain "com/example/inya/inya/StateLayoutUnpackPinLaw" (some 0) with
  accessFlags := 49
  interfaces := #[]
  cf := some (fileOf pool1 14 #[] #[{ accessFlags := 1, nameIndex := 5, descriptorIndex := 6, attributes := #[] }, { accessFlags := 10, nameIndex := 17, descriptorIndex := 18, attributes := #[] }, { accessFlags := 10, nameIndex := 21, descriptorIndex := 22, attributes := #[] }, { accessFlags := 10, nameIndex := 63, descriptorIndex := 64, attributes := #[] }, { accessFlags := 9, nameIndex := 68, descriptorIndex := 69, attributes := #[] }] 49 2 #[] #[])
  fields := #[]
  methods := #[k1m0, k1m1, k1m2, k1m3, k1m4]
  instanceTypes := #[]
  staticTypes := #[]
  resolved := Array.replicate 76 none
  statics := none }

def pool2 : Array CpInfo := pool [(8, .class_ 10), (1, u "java/lang/Iterable"), (24, .class_ 36), (0, u "java/lang/Object")] 25

/-- java/lang/Iterable -/
def k2 : Class := { plain "java/lang/Iterable" (some 0) with
  accessFlags := 1537
  interfaces := #[]
  cf := some (fileOf pool2 8 #[] #[] 1537 35 #[] #[])
  fields := #[]
  methods := #[]
  instanceTypes := #[]
  staticTypes := #[]
  resolved := Array.replicate 62 none
  statics := none }

def pool3 : Array CpInfo := pool [(10, .class_ 12), (1, u "java/util/Collection"), (47, .class_ 61), (0, u "java/lang/Object"), (0, .class_ 63), (0, u "java/lang/Iterable")] 51

/-- java/util/Collection -/
def k3 : Class := { plain "java/util/Collection" (some 0) with
  accessFlags := 1537
  interfaces := #[2]
  cf := some (fileOf pool3 10 #[] #[] 1537 60 #[62] #[])
  fields := #[]
  methods := #[]
  instanceTypes := #[]
  staticTypes := #[]
  resolved := Array.replicate 115 none
  statics := none }

def pool4 : Array CpInfo := pool [(1, .methodref 2 3), (0, .class_ 4), (0, .nameAndType 5 6), (0, u "java/lang/Object"), (0, u "<init>"), (0, u "()V"), (1, .class_ 10), (1, u "java/util/AbstractCollection"), (66, .class_ 78), (0, u "java/util/Collection")] 81

def k4c0 : Code := { maxStack := 1, maxLocals := 1, code := jdk_22_method_1_code, exceptionTable := #[], attributes := #[] }
def k4m0 : Method := { name := "<init>", desc := "()V", sig := { parameters := [], returnType := none }, accessFlags := 4, code := some k4c0 }
/-- java/util/AbstractCollection -/
def k4 : Class := { plain "java/util/AbstractCollection" (some 0) with
  accessFlags := 1057
  interfaces := #[3]
  cf := some (fileOf pool4 8 #[] #[{ accessFlags := 4, nameIndex := 5, descriptorIndex := 6, attributes := #[] }] 1057 2 #[77] #[])
  fields := #[]
  methods := #[k4m0]
  instanceTypes := #[]
  staticTypes := #[]
  resolved := Array.replicate 160 none
  statics := none }

def pool5 : Array CpInfo := pool [(8, .class_ 10), (1, u "java/util/SequencedCollection"), (15, .class_ 27), (0, u "java/lang/Object"), (0, .class_ 29), (0, u "java/util/Collection")] 27

/-- java/util/SequencedCollection -/
def k5 : Class := { plain "java/util/SequencedCollection" (some 0) with
  accessFlags := 1537
  interfaces := #[3]
  cf := some (fileOf pool5 8 #[] #[] 1537 26 #[28] #[])
  fields := #[]
  methods := #[]
  instanceTypes := #[]
  staticTypes := #[]
  resolved := Array.replicate 57 none
  statics := none }

def pool6 : Array CpInfo := pool [(8, .class_ 10), (1, u "java/util/List"), (64, u "get"), (0, u "(I)Ljava/lang/Object;"), (2, u "size"), (0, u "()I"), (22, .class_ 104), (0, u "java/lang/Object"), (15, .class_ 121), (0, u "java/util/SequencedCollection")] 129

def k6m0 : Method := { name := "size", desc := "()I", sig := { parameters := [], returnType := some .int }, accessFlags := 1025, code := none }
def k6m1 : Method := { name := "get", desc := "(I)Ljava/lang/Object;", sig := { parameters := [.int], returnType := some (.object "java/lang/Object") }, accessFlags := 1025, code := none }
/-- java/util/List -/
def k6 : Class := { plain "java/util/List" (some 0) with
  accessFlags := 1537
  interfaces := #[5]
  cf := some (fileOf pool6 8 #[] #[{ accessFlags := 1025, nameIndex := 79, descriptorIndex := 80, attributes := #[] }, { accessFlags := 1025, nameIndex := 75, descriptorIndex := 76, attributes := #[] }] 1537 103 #[120] #[])
  fields := #[]
  methods := #[k6m0, k6m1]
  instanceTypes := #[]
  staticTypes := #[]
  resolved := Array.replicate 251 none
  statics := none }

def pool7 : Array CpInfo := pool [(1, .methodref 2 3), (0, .class_ 4), (0, .nameAndType 5 6), (0, u "java/util/AbstractCollection"), (0, u "<init>"), (0, u "()V"), (0, .fieldref 8 9), (0, .class_ 10), (0, .nameAndType 11 12), (0, u "java/util/AbstractList"), (0, u "modCount"), (0, u "I"), (64, .class_ 78), (0, u "java/util/AbstractList$Itr"), (3, .class_ 83), (0, u "java/util/AbstractList$ListItr"), (9, .class_ 94), (0, u "java/util/AbstractList$RandomAccessSubList"), (3, .class_ 99), (0, u "java/util/AbstractList$SubList"), (33, .class_ 134), (0, u "java/util/List"), (73, .class_ 209), (0, u "java/util/AbstractList$SubList$1"), (0, .class_ 211), (0, u "java/util/AbstractList$RandomAccessSpliterator")] 6

def k7c0 : Code := { maxStack := 2, maxLocals := 1, code := jdk_39_method_1_code, exceptionTable := #[], attributes := #[] }
def k7m0 : Method := { name := "<init>", desc := "()V", sig := { parameters := [], returnType := none }, accessFlags := 4, code := some k7c0 }
/-- java/util/AbstractList -/
def k7 : Class := { plain "java/util/AbstractList" (some 4) with
  accessFlags := 1057
  interfaces := #[6]
  cf := some (fileOf pool7 8 #[.nestMembers #[93, 98, 208, 210, 82, 77]] #[{ accessFlags := 4, nameIndex := 5, descriptorIndex := 6, attributes := #[] }] 1057 2 #[133] #[{ accessFlags := 132, nameIndex := 11, descriptorIndex := 12, attributes := #[] }])
  fields := #[{ name := "modCount", type := .int, accessFlags := 132, slot := 0, constantValue := 0 }]
  methods := #[k7m0]
  instanceTypes := #[.int]
  staticTypes := #[]
  resolved := Array.replicate 218 none
  statics := none }

def pool8 : Array CpInfo := pool [(1, .class_ 2), (0, u "java/util/RandomAccess"), (0, .class_ 4), (0, u "java/lang/Object")] 2

/-- java/util/RandomAccess -/
def k8 : Class := { plain "java/util/RandomAccess" (some 0) with
  accessFlags := 1537
  interfaces := #[]
  cf := some (fileOf pool8 1 #[] #[] 1537 3 #[] #[])
  fields := #[]
  methods := #[]
  instanceTypes := #[]
  staticTypes := #[]
  resolved := Array.replicate 7 none
  statics := none }

def pool9 : Array CpInfo := pool [(1, .class_ 2), (0, u "java/lang/Cloneable"), (0, .class_ 4), (0, u "java/lang/Object")] 2

/-- java/lang/Cloneable -/
def k9 : Class := { plain "java/lang/Cloneable" (some 0) with
  accessFlags := 1537
  interfaces := #[]
  cf := some (fileOf pool9 1 #[] #[] 1537 3 #[] #[])
  fields := #[]
  methods := #[]
  instanceTypes := #[]
  staticTypes := #[]
  resolved := Array.replicate 7 none
  statics := none }

def pool10 : Array CpInfo := pool [(1, .class_ 2), (0, u "java/io/Serializable"), (0, .class_ 4), (0, u "java/lang/Object")] 2

/-- java/io/Serializable -/
def k10 : Class := { plain "java/io/Serializable" (some 0) with
  accessFlags := 1537
  interfaces := #[]
  cf := some (fileOf pool10 1 #[] #[] 1537 3 #[] #[])
  fields := #[]
  methods := #[]
  instanceTypes := #[]
  staticTypes := #[]
  resolved := Array.replicate 7 none
  statics := none }

def pool11 : Array CpInfo := pool [(1, .methodref 2 3), (0, .class_ 4), (0, .nameAndType 5 6), (0, u "java/util/AbstractList"), (0, u "<init>"), (0, u "()V"), (0, .class_ 8), (0, u "java/lang/Object"), (0, .fieldref 10 11), (0, .class_ 12), (0, .nameAndType 13 14), (0, u "java/util/ArrayList"), (0, u "elementData"), (0, u "[Ljava/lang/Object;"), (2, u "EMPTY_ELEMENTDATA"), (21, .fieldref 10 40), (0, .nameAndType 41 14), (0, u "DEFAULTCAPACITY_EMPTY_ELEMENTDATA"), (5, u "()[Ljava/lang/Object;"), (0, .fieldref 10 49), (0, .nameAndType 50 51), (0, u "size"), (0, u "I"), (11, .fieldref 10 64), (0, .nameAndType 65 51), (0, u "modCount"), (3, .methodref 10 70), (0, .nameAndType 71 72), (0, u "grow"), (0, u "(I)[Ljava/lang/Object;"), (6, .methodref 80 81), (0, .class_ 82), (0, .nameAndType 83 84), (0, u "java/lang/Math"), (0, u "max"), (0, u "(II)I"), (11, u "(Ljava/lang/Object;)Z"), (21, .methodref 119 120), (0, .class_ 121), (0, .nameAndType 122 84), (0, u "java/util/Objects"), (0, u "checkIndex"), (0, .methodref 10 124), (0, .nameAndType 13 125), (0, u "(I)Ljava/lang/Object;"), (3, .methodref 10 130), (0, .nameAndType 71 47), (0, .methodref 10 132), (0, .nameAndType 133 134), (0, u "add"), (0, u "(Ljava/lang/Object;[Ljava/lang/Object;I)V"), (13, .class_ 149), (0, u "java/util/List"), (36, u "()I"), (75, .class_ 263), (0, u "java/util/ArrayList$ListItr"), (3, .class_ 268), (0, u "java/util/ArrayList$Itr"), (7, .class_ 277), (0, u "java/util/ArrayList$SubList"), (12, .class_ 291), (0, u "java/util/ArrayList$ArrayListSpliterator"), (37, .class_ 330), (0, u "java/util/RandomAccess"), (0, .class_ 332), (0, u "java/lang/Cloneable"), (0, .class_ 334), (0, u "java/io/Serializable"), (0, u "serialVersionUID"), (0, u "J"), (3, u "DEFAULT_CAPACITY"), (40, u "get"), (118, .class_ 501), (0, u "java/util/ArrayList$SubList$2"), (0, .class_ 503), (0, u "java/util/ArrayList$SubList$1")] 5

def k11c0 : Code := { maxStack := 2, maxLocals := 1, code := jdk_38_method_2_code, exceptionTable := #[], attributes := #[] }
def k11m0 : Method := { name := "<init>", desc := "()V", sig := { parameters := [], returnType := none }, accessFlags := 1, code := some k11c0 }
def k11c1 : Code := { maxStack := 4, maxLocals := 4, code := jdk_38_method_6_code, exceptionTable := #[], attributes := #[] }
def k11m1 : Method := { name := "grow", desc := "(I)[Ljava/lang/Object;", sig := { parameters := [.int], returnType := some (.array (.object "java/lang/Object")) }, accessFlags := 2, code := some k11c1 }
def k11c2 : Code := { maxStack := 3, maxLocals := 1, code := jdk_38_method_7_code, exceptionTable := #[], attributes := #[] }
def k11m2 : Method := { name := "grow", desc := "()[Ljava/lang/Object;", sig := { parameters := [], returnType := some (.array (.object "java/lang/Object")) }, accessFlags := 2, code := some k11c2 }
def k11c3 : Code := { maxStack := 1, maxLocals := 1, code := jdk_38_method_8_code, exceptionTable := #[], attributes := #[] }
def k11m3 : Method := { name := "size", desc := "()I", sig := { parameters := [], returnType := some .int }, accessFlags := 1, code := some k11c3 }
def k11c4 : Code := { maxStack := 2, maxLocals := 2, code := jdk_38_method_18_code, exceptionTable := #[], attributes := #[] }
def k11m4 : Method := { name := "elementData", desc := "(I)Ljava/lang/Object;", sig := { parameters := [.int], returnType := some (.object "java/lang/Object") }, accessFlags := 0, code := some k11c4 }
def k11c5 : Code := { maxStack := 2, maxLocals := 2, code := jdk_38_method_20_code, exceptionTable := #[], attributes := #[] }
def k11m5 : Method := { name := "get", desc := "(I)Ljava/lang/Object;", sig := { parameters := [.int], returnType := some (.object "java/lang/Object") }, accessFlags := 1, code := some k11c5 }
def k11c6 : Code := { maxStack := 3, maxLocals := 4, code := jdk_38_method_24_code, exceptionTable := #[], attributes := #[] }
def k11m6 : Method := { name := "add", desc := "(Ljava/lang/Object;[Ljava/lang/Object;I)V", sig := { parameters := [(.object "java/lang/Object"), (.array (.object "java/lang/Object")), .int], returnType := none }, accessFlags := 2, code := some k11c6 }
def k11c7 : Code := { maxStack := 4, maxLocals := 2, code := jdk_38_method_25_code, exceptionTable := #[], attributes := #[] }
def k11m7 : Method := { name := "add", desc := "(Ljava/lang/Object;)Z", sig := { parameters := [(.object "java/lang/Object")], returnType := some .boolean }, accessFlags := 1, code := some k11c7 }
/-- java/util/ArrayList -/
def k11 : Class := { plain "java/util/ArrayList" (some 7) with
  accessFlags := 33
  interfaces := #[6, 8, 9, 10]
  cf := some (fileOf pool11 10 #[.nestMembers #[290, 276, 500, 502, 262, 267]] #[{ accessFlags := 1, nameIndex := 5, descriptorIndex := 6, attributes := #[] }, { accessFlags := 2, nameIndex := 71, descriptorIndex := 72, attributes := #[] }, { accessFlags := 2, nameIndex := 71, descriptorIndex := 47, attributes := #[] }, { accessFlags := 1, nameIndex := 50, descriptorIndex := 186, attributes := #[] }, { accessFlags := 0, nameIndex := 13, descriptorIndex := 125, attributes := #[] }, { accessFlags := 1, nameIndex := 381, descriptorIndex := 125, attributes := #[] }, { accessFlags := 2, nameIndex := 133, descriptorIndex := 134, attributes := #[] }, { accessFlags := 1, nameIndex := 133, descriptorIndex := 96, attributes := #[] }] 33 2 #[148, 329, 331, 333] #[{ accessFlags := 26, nameIndex := 335, descriptorIndex := 336, attributes := #[] }, { accessFlags := 26, nameIndex := 340, descriptorIndex := 51, attributes := #[] }, { accessFlags := 26, nameIndex := 17, descriptorIndex := 14, attributes := #[] }, { accessFlags := 26, nameIndex := 41, descriptorIndex := 14, attributes := #[] }, { accessFlags := 128, nameIndex := 13, descriptorIndex := 14, attributes := #[] }, { accessFlags := 2, nameIndex := 50, descriptorIndex := 51, attributes := #[] }])
  fields := #[{ name := "serialVersionUID", type := .long, accessFlags := 26, slot := 0, constantValue := 0 }, { name := "DEFAULT_CAPACITY", type := .int, accessFlags := 26, slot := 1, constantValue := 0 }, { name := "EMPTY_ELEMENTDATA", type := (.array (.object "java/lang/Object")), accessFlags := 26, slot := 2, constantValue := 0 }, { name := "DEFAULTCAPACITY_EMPTY_ELEMENTDATA", type := (.array (.object "java/lang/Object")), accessFlags := 26, slot := 3, constantValue := 0 }, { name := "elementData", type := (.array (.object "java/lang/Object")), accessFlags := 128, slot := 1, constantValue := 0 }, { name := "size", type := .int, accessFlags := 2, slot := 2, constantValue := 0 }]
  methods := #[k11m0, k11m1, k11m2, k11m3, k11m4, k11m5, k11m6, k11m7]
  instanceTypes := #[.int, (.array (.object "java/lang/Object")), .int]
  staticTypes := #[.long, .int, (.array (.object "java/lang/Object")), (.array (.object "java/lang/Object"))]
  resolved := Array.replicate 509 none
  statics := some 0 }

def pool12 : Array CpInfo := pool [(1, .methodref 2 3), (0, .class_ 4), (0, .nameAndType 5 6), (0, u "java/lang/Object"), (0, u "<init>"), (0, u "()V"), (0, .class_ 8), (0, u "java/lang/Record")] 13

def k12c0 : Code := { maxStack := 1, maxLocals := 1, code := jdk_30_method_1_code, exceptionTable := #[], attributes := #[] }
def k12m0 : Method := { name := "<init>", desc := "()V", sig := { parameters := [], returnType := none }, accessFlags := 4, code := some k12c0 }
/-- java/lang/Record -/
def k12 : Class := { plain "java/lang/Record" (some 0) with
  accessFlags := 1057
  interfaces := #[]
  cf := some (fileOf pool12 7 #[] #[{ accessFlags := 4, nameIndex := 5, descriptorIndex := 6, attributes := #[] }] 1057 2 #[] #[])
  fields := #[]
  methods := #[k12m0]
  instanceTypes := #[]
  staticTypes := #[]
  resolved := Array.replicate 22 none
  statics := none }

def pool13 : Array CpInfo := pool [(1, .methodref 2 3), (0, .class_ 4), (0, .nameAndType 5 6), (0, u "java/lang/Record"), (0, u "<init>"), (0, u "()V"), (0, .fieldref 8 9), (0, .class_ 10), (0, .nameAndType 11 12), (0, u "com/example/inya/inya/Variable"), (0, u "name"), (0, u "Ljava/lang/String;"), (0, .fieldref 8 14), (0, .nameAndType 15 16), (0, u "role"), (0, u "Lcom/example/inya/inya/Role;"), (0, .fieldref 8 18), (0, .nameAndType 19 20), (0, u "domain"), (0, u "Lcom/example/inya/inya/Domain;"), (0, .fieldref 8 22), (0, .nameAndType 23 24), (0, u "index"), (0, u "I"), (0, .fieldref 8 26), (0, .nameAndType 27 28), (0, u "position"), (0, u "Lcom/example/inya/inya/Position;"), (12, u "(Ljava/lang/String;Lcom/example/inya/inya/Role;Lcom/example/inya/inya/Domain;ILcom/example/inya/inya/Position;)V"), (4, u "()I"), (2, u "()Lcom/example/inya/inya/Domain;")] 25

def k13c0 : Code := { maxStack := 2, maxLocals := 6, code := prog_119_method_1_code, exceptionTable := #[], attributes := #[] }
def k13m0 : Method := { name := "<init>", desc := "(Ljava/lang/String;Lcom/example/inya/inya/Role;Lcom/example/inya/inya/Domain;ILcom/example/inya/inya/Position;)V", sig := { parameters := [(.object "java/lang/String"), (.object "com/example/inya/inya/Role"), (.object "com/example/inya/inya/Domain"), .int, (.object "com/example/inya/inya/Position")], returnType := none }, accessFlags := 0, code := some k13c0 }
def k13c1 : Code := { maxStack := 1, maxLocals := 1, code := prog_119_method_7_code, exceptionTable := #[], attributes := #[] }
def k13m1 : Method := { name := "domain", desc := "()Lcom/example/inya/inya/Domain;", sig := { parameters := [], returnType := some (.object "com/example/inya/inya/Domain") }, accessFlags := 1, code := some k13c1 }
def k13c2 : Code := { maxStack := 1, maxLocals := 1, code := prog_119_method_8_code, exceptionTable := #[], attributes := #[] }
def k13m2 : Method := { name := "index", desc := "()I", sig := { parameters := [], returnType := some .int }, accessFlags := 1, code := some k13c2 }
/-- com/example/inya/inya/Variable -/
def k13 : Class := { plain "com/example/inya/inya/Variable" (some 12) with
  accessFlags := 48
  interfaces := #[]
  cf := some (fileOf pool13 8 #[] #[{ accessFlags := 0, nameIndex := 5, descriptorIndex := 41, attributes := #[] }, { accessFlags := 1, nameIndex := 19, descriptorIndex := 49, attributes := #[] }, { accessFlags := 1, nameIndex := 23, descriptorIndex := 46, attributes := #[] }] 48 2 #[] #[{ accessFlags := 18, nameIndex := 11, descriptorIndex := 12, attributes := #[] }, { accessFlags := 18, nameIndex := 15, descriptorIndex := 16, attributes := #[] }, { accessFlags := 18, nameIndex := 19, descriptorIndex := 20, attributes := #[] }, { accessFlags := 18, nameIndex := 23, descriptorIndex := 24, attributes := #[] }, { accessFlags := 18, nameIndex := 27, descriptorIndex := 28, attributes := #[] }])
  fields := #[{ name := "name", type := (.object "java/lang/String"), accessFlags := 18, slot := 0, constantValue := 0 }, { name := "role", type := (.object "com/example/inya/inya/Role"), accessFlags := 18, slot := 1, constantValue := 0 }, { name := "domain", type := (.object "com/example/inya/inya/Domain"), accessFlags := 18, slot := 2, constantValue := 0 }, { name := "index", type := .int, accessFlags := 18, slot := 3, constantValue := 0 }, { name := "position", type := (.object "com/example/inya/inya/Position"), accessFlags := 18, slot := 4, constantValue := 0 }]
  methods := #[k13m0, k13m1, k13m2]
  instanceTypes := #[(.object "java/lang/String"), (.object "com/example/inya/inya/Role"), (.object "com/example/inya/inya/Domain"), .int, (.object "com/example/inya/inya/Position")]
  staticTypes := #[]
  resolved := Array.replicate 75 none
  statics := none }

def pool14 : Array CpInfo := pool [(1, .methodref 2 3), (0, .class_ 4), (0, .nameAndType 5 6), (0, u "java/lang/Object"), (0, u "<init>"), (0, u "()V"), (0, .fieldref 8 9), (0, .class_ 10), (0, .nameAndType 11 12), (0, u "com/example/inya/inya/Domain"), (0, u "bool"), (0, u "Z"), (0, .fieldref 8 14), (0, .nameAndType 15 16), (0, u "lo"), (0, u "I"), (0, .fieldref 8 18), (0, .nameAndType 19 16), (0, u "hi"), (9, .methodref 8 30), (0, .nameAndType 5 31), (0, u "(ZII)V"), (15, u "BOOLEAN"), (0, u "Lcom/example/inya/inya/Domain;"), (2, u "range"), (0, u "(II)Lcom/example/inya/inya/Domain;"), (3, u "()I"), (0, u "size"), (0, u "()J")] 26

def k14c0 : Code := { maxStack := 2, maxLocals := 4, code := prog_21_method_1_code, exceptionTable := #[], attributes := #[] }
def k14m0 : Method := { name := "<init>", desc := "(ZII)V", sig := { parameters := [.boolean, .int, .int], returnType := none }, accessFlags := 2, code := some k14c0 }
def k14c1 : Code := { maxStack := 5, maxLocals := 2, code := prog_21_method_2_code, exceptionTable := #[], attributes := #[] }
def k14m1 : Method := { name := "range", desc := "(II)Lcom/example/inya/inya/Domain;", sig := { parameters := [.int, .int], returnType := some (.object "com/example/inya/inya/Domain") }, accessFlags := 9, code := some k14c1 }
def k14c2 : Code := { maxStack := 1, maxLocals := 1, code := prog_21_method_4_code, exceptionTable := #[], attributes := #[] }
def k14m2 : Method := { name := "lo", desc := "()I", sig := { parameters := [], returnType := some .int }, accessFlags := 1, code := some k14c2 }
def k14c3 : Code := { maxStack := 4, maxLocals := 1, code := prog_21_method_6_code, exceptionTable := #[], attributes := #[] }
def k14m3 : Method := { name := "size", desc := "()J", sig := { parameters := [], returnType := some .long }, accessFlags := 1, code := some k14c3 }
/-- com/example/inya/inya/Domain -/
def k14 : Class := { plain "com/example/inya/inya/Domain" (some 0) with
  accessFlags := 33
  interfaces := #[]
  cf := some (fileOf pool14 8 #[] #[{ accessFlags := 2, nameIndex := 5, descriptorIndex := 31, attributes := #[] }, { accessFlags := 9, nameIndex := 51, descriptorIndex := 52, attributes := #[] }, { accessFlags := 1, nameIndex := 15, descriptorIndex := 56, attributes := #[] }, { accessFlags := 1, nameIndex := 57, descriptorIndex := 58, attributes := #[] }] 33 2 #[] #[{ accessFlags := 25, nameIndex := 47, descriptorIndex := 48, attributes := #[] }, { accessFlags := 18, nameIndex := 11, descriptorIndex := 12, attributes := #[] }, { accessFlags := 18, nameIndex := 15, descriptorIndex := 16, attributes := #[] }, { accessFlags := 18, nameIndex := 19, descriptorIndex := 16, attributes := #[] }])
  fields := #[{ name := "BOOLEAN", type := (.object "com/example/inya/inya/Domain"), accessFlags := 25, slot := 0, constantValue := 0 }, { name := "bool", type := .boolean, accessFlags := 18, slot := 0, constantValue := 0 }, { name := "lo", type := .int, accessFlags := 18, slot := 1, constantValue := 0 }, { name := "hi", type := .int, accessFlags := 18, slot := 2, constantValue := 0 }]
  methods := #[k14m0, k14m1, k14m2, k14m3]
  instanceTypes := #[.boolean, .int, .int]
  staticTypes := #[(.object "com/example/inya/inya/Domain")]
  resolved := Array.replicate 85 none
  statics := none }

def pool15 : Array CpInfo := pool [(1, .class_ 2), (0, u "java/lang/Math"), (1, .class_ 6), (1, u "java/lang/Object"), (0, u "<init>"), (0, u "()V"), (89, .class_ 100), (1, u "java/lang/Math$RandomNumberGeneratorHolder"), (71, u "negativeZeroFloatBits"), (0, u "J"), (2, u "negativeZeroDoubleBits"), (21, u "max"), (46, u "$assertionsDisabled"), (0, u "Z"), (88, u "(II)I"), (2, u "twoToTheDoubleScaleDown"), (0, u "D"), (4, u "twoToTheDoubleScaleUp"), (9, u "E"), (3, u "PI"), (2, u "TAU"), (2, u "DEGREES_TO_RADIANS"), (0, u "RADIANS_TO_DEGREES")] 94

def k15m0 : Method := { name := "<init>", desc := "()V", sig := { parameters := [], returnType := none }, accessFlags := 2, code := none }
def k15c1 : Code := { maxStack := 2, maxLocals := 2, code := jdk_29_method_65_code, exceptionTable := #[], attributes := #[] }
def k15m1 : Method := { name := "max", desc := "(II)I", sig := { parameters := [.int, .int], returnType := some .int }, accessFlags := 9, code := some k15c1 }
/-- java/lang/Math -/
def k15 : Class := { plain "java/lang/Math" (some 0) with
  accessFlags := 49
  interfaces := #[]
  cf := some (fileOf pool15 1 #[.nestMembers #[98]] #[{ accessFlags := 2, nameIndex := 7, descriptorIndex := 8, attributes := #[] }, { accessFlags := 9, nameIndex := 198, descriptorIndex := 335, attributes := #[] }] 49 4 #[] #[{ accessFlags := 25, nameIndex := 354, descriptorIndex := 339, attributes := #[] }, { accessFlags := 25, nameIndex := 358, descriptorIndex := 339, attributes := #[] }, { accessFlags := 25, nameIndex := 361, descriptorIndex := 339, attributes := #[] }, { accessFlags := 26, nameIndex := 364, descriptorIndex := 339, attributes := #[] }, { accessFlags := 26, nameIndex := 365, descriptorIndex := 339, attributes := #[] }, { accessFlags := 26, nameIndex := 172, descriptorIndex := 173, attributes := #[] }, { accessFlags := 26, nameIndex := 176, descriptorIndex := 173, attributes := #[] }, { accessFlags := 8, nameIndex := 344, descriptorIndex := 339, attributes := #[] }, { accessFlags := 8, nameIndex := 338, descriptorIndex := 339, attributes := #[] }, { accessFlags := 4120, nameIndex := 245, descriptorIndex := 246, attributes := #[] }])
  fields := #[{ name := "E", type := .double, accessFlags := 25, slot := 0, constantValue := 0 }, { name := "PI", type := .double, accessFlags := 25, slot := 1, constantValue := 0 }, { name := "TAU", type := .double, accessFlags := 25, slot := 2, constantValue := 0 }, { name := "DEGREES_TO_RADIANS", type := .double, accessFlags := 26, slot := 3, constantValue := 0 }, { name := "RADIANS_TO_DEGREES", type := .double, accessFlags := 26, slot := 4, constantValue := 0 }, { name := "negativeZeroFloatBits", type := .long, accessFlags := 26, slot := 5, constantValue := 0 }, { name := "negativeZeroDoubleBits", type := .long, accessFlags := 26, slot := 6, constantValue := 0 }, { name := "twoToTheDoubleScaleUp", type := .double, accessFlags := 8, slot := 7, constantValue := 0 }, { name := "twoToTheDoubleScaleDown", type := .double, accessFlags := 8, slot := 8, constantValue := 0 }, { name := "$assertionsDisabled", type := .boolean, accessFlags := 4120, slot := 9, constantValue := 0 }]
  methods := #[k15m0, k15m1]
  instanceTypes := #[]
  staticTypes := #[.double, .double, .double, .double, .double, .long, .long, .double, .double, .boolean]
  resolved := Array.replicate 460 none
  statics := none }

def pool16 : Array CpInfo := pool [(1, .methodref 2 3), (0, .class_ 4), (0, .nameAndType 5 6), (0, u "java/lang/Object"), (0, u "<init>"), (0, u "()V"), (0, .interfaceMethodref 8 9), (0, .class_ 10), (0, .nameAndType 11 12), (0, u "java/util/List"), (0, u "size"), (0, u "()I"), (0, .fieldref 14 15), (0, .class_ 16), (0, .nameAndType 17 18), (0, u "com/example/inya/inya/StateLayout"), (0, u "index"), (0, u "[I"), (0, .fieldref 14 20), (0, .nameAndType 21 18), (0, u "word"), (0, .fieldref 14 23), (0, .nameAndType 24 18), (0, u "shift"), (0, .fieldref 14 26), (0, .nameAndType 27 28), (0, u "mask"), (0, u "[J"), (0, .fieldref 14 30), (0, .nameAndType 31 18), (0, u "lo"), (0, .interfaceMethodref 8 33), (0, .nameAndType 34 35), (0, u "get"), (0, u "(I)Ljava/lang/Object;"), (0, .class_ 37), (0, u "com/example/inya/inya/Variable"), (0, .methodref 36 39), (0, .nameAndType 40 41), (0, u "domain"), (0, u "()Lcom/example/inya/inya/Domain;"), (0, .methodref 43 44), (0, .class_ 45), (0, .nameAndType 11 46), (0, u "com/example/inya/inya/Domain"), (0, u "()J"), (0, .class_ 48), (0, u "java/lang/Long"), (0, .methodref 47 50), (0, .nameAndType 51 52), (0, u "numberOfLeadingZeros"), (0, u "(J)I"), (0, .methodref 36 54), (0, .nameAndType 17 12), (0, .methodref 43 56), (0, .nameAndType 31 12), (0, .fieldref 14 58), (0, .nameAndType 59 60), (0, u "words"), (0, u "I"), (1, .class_ 64), (1, u "java/util/Arrays"), (29, .methodref 62 95), (0, .nameAndType 96 97), (0, u "fill"), (0, u "([JJ)V"), (2, u "unpack"), (0, u "([JI[II)V"), (0, u "(Ljava/util/List;)V"), (7, u "pack"), (0, u "([I[J)V")] 19

def k16c0 : Code := { maxStack := 6, maxLocals := 10, code := prog_77_method_1_code, exceptionTable := #[], attributes := #[] }
def k16m0 : Method := { name := "<init>", desc := "(Ljava/util/List;)V", sig := { parameters := [(.object "java/util/List")], returnType := none }, accessFlags := 0, code := some k16c0 }
def k16c1 : Code := { maxStack := 1, maxLocals := 1, code := prog_77_method_4_code, exceptionTable := #[], attributes := #[] }
def k16m1 : Method := { name := "words", desc := "()I", sig := { parameters := [], returnType := some .int }, accessFlags := 0, code := some k16c1 }
def k16c2 : Code := { maxStack := 8, maxLocals := 4, code := prog_77_method_5_code, exceptionTable := #[], attributes := #[] }
def k16m2 : Method := { name := "pack", desc := "([I[J)V", sig := { parameters := [(.array .int), (.array .long)], returnType := none }, accessFlags := 0, code := some k16c2 }
def k16c3 : Code := { maxStack := 8, maxLocals := 6, code := prog_77_method_7_code, exceptionTable := #[], attributes := #[] }
def k16m3 : Method := { name := "unpack", desc := "([JI[II)V", sig := { parameters := [(.array .long), .int, (.array .int), .int], returnType := none }, accessFlags := 0, code := some k16c3 }
/-- com/example/inya/inya/StateLayout -/
def k16 : Class := { plain "com/example/inya/inya/StateLayout" (some 0) with
  accessFlags := 32
  interfaces := #[]
  cf := some (fileOf pool16 14 #[] #[{ accessFlags := 0, nameIndex := 5, descriptorIndex := 102, attributes := #[] }, { accessFlags := 0, nameIndex := 59, descriptorIndex := 12, attributes := #[] }, { accessFlags := 0, nameIndex := 110, descriptorIndex := 111, attributes := #[] }, { accessFlags := 0, nameIndex := 100, descriptorIndex := 101, attributes := #[] }] 32 2 #[] #[{ accessFlags := 18, nameIndex := 17, descriptorIndex := 18, attributes := #[] }, { accessFlags := 18, nameIndex := 21, descriptorIndex := 18, attributes := #[] }, { accessFlags := 18, nameIndex := 24, descriptorIndex := 18, attributes := #[] }, { accessFlags := 18, nameIndex := 27, descriptorIndex := 28, attributes := #[] }, { accessFlags := 18, nameIndex := 31, descriptorIndex := 18, attributes := #[] }, { accessFlags := 18, nameIndex := 59, descriptorIndex := 60, attributes := #[] }])
  fields := #[{ name := "index", type := (.array .int), accessFlags := 18, slot := 0, constantValue := 0 }, { name := "word", type := (.array .int), accessFlags := 18, slot := 1, constantValue := 0 }, { name := "shift", type := (.array .int), accessFlags := 18, slot := 2, constantValue := 0 }, { name := "mask", type := (.array .long), accessFlags := 18, slot := 3, constantValue := 0 }, { name := "lo", type := (.array .int), accessFlags := 18, slot := 4, constantValue := 0 }, { name := "words", type := .int, accessFlags := 18, slot := 5, constantValue := 0 }]
  methods := #[k16m0, k16m1, k16m2, k16m3]
  instanceTypes := #[(.array .int), (.array .int), (.array .int), (.array .long), (.array .int), .int]
  staticTypes := #[]
  resolved := Array.replicate 131 none
  statics := none }

def pool17 : Array CpInfo := pool [(2, .class_ 4), (1, u "java/lang/Object"), (0, u "<init>"), (0, u "()V"), (35, .class_ 44), (1, u "java/util/Objects"), (60, .methodref 106 107), (0, .class_ 108), (0, .nameAndType 109 110), (0, u "jdk/internal/util/Preconditions"), (0, u "checkIndex"), (0, u "(IILjava/util/function/BiFunction;)I"), (60, u "(II)I")] 12

def k17m0 : Method := { name := "<init>", desc := "()V", sig := { parameters := [], returnType := none }, accessFlags := 2, code := none }
def k17c1 : Code := { maxStack := 3, maxLocals := 2, code := jdk_31_method_17_code, exceptionTable := #[], attributes := #[] }
def k17m1 : Method := { name := "checkIndex", desc := "(II)I", sig := { parameters := [.int, .int], returnType := some .int }, accessFlags := 9, code := some k17c1 }
/-- java/util/Objects -/
def k17 : Class := { plain "java/util/Objects" (some 0) with
  accessFlags := 49
  interfaces := #[]
  cf := some (fileOf pool17 42 #[] #[{ accessFlags := 2, nameIndex := 5, descriptorIndex := 6, attributes := #[] }, { accessFlags := 9, nameIndex := 109, descriptorIndex := 171, attributes := #[] }] 49 2 #[] #[])
  fields := #[]
  methods := #[k17m0, k17m1]
  instanceTypes := #[]
  staticTypes := #[]
  resolved := Array.replicate 184 none
  statics := none }

def pool18 : Array CpInfo := pool [(2, .class_ 4), (1, u "java/lang/Object"), (0, u "<init>"), (0, u "()V"), (17, .class_ 26), (1, u "jdk/internal/util/Preconditions"), (6, u "checkIndex"), (21, .class_ 56), (0, u "jdk/internal/util/Preconditions$4"), (57, .class_ 115), (0, u "jdk/internal/util/Preconditions$1"), (7, u "SIOOBE_FORMATTER"), (0, u "Ljava/util/function/BiFunction;"), (0, .class_ 126), (0, u "jdk/internal/util/Preconditions$2"), (3, u "AIOOBE_FORMATTER"), (0, .class_ 132), (0, u "jdk/internal/util/Preconditions$3"), (3, u "IOOBE_FORMATTER"), (41, u "(IILjava/util/function/BiFunction;)I")] 15

def k18m0 : Method := { name := "<init>", desc := "()V", sig := { parameters := [], returnType := none }, accessFlags := 1, code := none }
def k18c1 : Code := { maxStack := 3, maxLocals := 3, code := jdk_41_method_11_code, exceptionTable := #[], attributes := #[] }
def k18m1 : Method := { name := "checkIndex", desc := "(IILjava/util/function/BiFunction;)I", sig := { parameters := [.int, .int, (.object "java/util/function/BiFunction")], returnType := some .int }, accessFlags := 9, code := some k18c1 }
/-- jdk/internal/util/Preconditions -/
def k18 : Class := { plain "jdk/internal/util/Preconditions" (some 0) with
  accessFlags := 33
  interfaces := #[]
  cf := some (fileOf pool18 24 #[.nestMembers #[55, 131, 125, 114]] #[{ accessFlags := 1, nameIndex := 5, descriptorIndex := 6, attributes := #[] }, { accessFlags := 9, nameIndex := 33, descriptorIndex := 178, attributes := #[] }] 33 2 #[] #[{ accessFlags := 25, nameIndex := 123, descriptorIndex := 124, attributes := #[] }, { accessFlags := 25, nameIndex := 130, descriptorIndex := 124, attributes := #[] }, { accessFlags := 25, nameIndex := 136, descriptorIndex := 124, attributes := #[] }])
  fields := #[{ name := "SIOOBE_FORMATTER", type := (.object "java/util/function/BiFunction"), accessFlags := 25, slot := 0, constantValue := 0 }, { name := "AIOOBE_FORMATTER", type := (.object "java/util/function/BiFunction"), accessFlags := 25, slot := 1, constantValue := 0 }, { name := "IOOBE_FORMATTER", type := (.object "java/util/function/BiFunction"), accessFlags := 25, slot := 2, constantValue := 0 }]
  methods := #[k18m0, k18m1]
  instanceTypes := #[]
  staticTypes := #[(.object "java/util/function/BiFunction"), (.object "java/util/function/BiFunction"), (.object "java/util/function/BiFunction")]
  resolved := Array.replicate 194 none
  statics := none }

def pool19 : Array CpInfo := pool [(2, .class_ 4), (1, u "java/lang/Object"), (0, u "<init>"), (0, u "()V"), (1, .class_ 10), (1, u "java/lang/Number"), (2, .class_ 14), (0, u "java/io/Serializable"), (0, u "serialVersionUID"), (0, u "J")] 20

def k19m0 : Method := { name := "<init>", desc := "()V", sig := { parameters := [], returnType := none }, accessFlags := 1, code := none }
/-- java/lang/Number -/
def k19 : Class := { plain "java/lang/Number" (some 0) with
  accessFlags := 1057
  interfaces := #[10]
  cf := some (fileOf pool19 8 #[] #[{ accessFlags := 1, nameIndex := 5, descriptorIndex := 6, attributes := #[] }] 1057 2 #[13] #[{ accessFlags := 26, nameIndex := 15, descriptorIndex := 16, attributes := #[] }])
  fields := #[{ name := "serialVersionUID", type := .long, accessFlags := 26, slot := 0, constantValue := 0 }]
  methods := #[k19m0]
  instanceTypes := #[]
  staticTypes := #[.long]
  resolved := Array.replicate 37 none
  statics := none }

def pool20 : Array CpInfo := pool [(1, .class_ 2), (0, u "java/lang/Comparable"), (0, .class_ 4), (0, u "java/lang/Object")] 7

/-- java/lang/Comparable -/
def k20 : Class := { plain "java/lang/Comparable" (some 0) with
  accessFlags := 1537
  interfaces := #[]
  cf := some (fileOf pool20 1 #[] #[] 1537 3 #[] #[])
  fields := #[]
  methods := #[]
  instanceTypes := #[]
  staticTypes := #[]
  resolved := Array.replicate 12 none
  statics := none }

def pool21 : Array CpInfo := pool [(1, .class_ 2), (0, u "java/lang/constant/Constable"), (0, .class_ 4), (0, u "java/lang/Object")] 6

/-- java/lang/constant/Constable -/
def k21 : Class := { plain "java/lang/constant/Constable" (some 0) with
  accessFlags := 1537
  interfaces := #[]
  cf := some (fileOf pool21 1 #[] #[] 1537 3 #[] #[])
  fields := #[]
  methods := #[]
  instanceTypes := #[]
  staticTypes := #[]
  resolved := Array.replicate 11 none
  statics := none }

def pool22 : Array CpInfo := pool [(1, .class_ 2), (0, u "java/lang/constant/ConstantDesc"), (0, .class_ 4), (0, u "java/lang/Object")] 32

/-- java/lang/constant/ConstantDesc -/
def k22 : Class := { plain "java/lang/constant/ConstantDesc" (some 0) with
  accessFlags := 1537
  interfaces := #[]
  cf := some (fileOf pool22 1 #[] #[] 1537 3 #[] #[])
  fields := #[]
  methods := #[]
  instanceTypes := #[]
  staticTypes := #[]
  resolved := Array.replicate 37 none
  statics := none }

def pool23 : Array CpInfo := pool [(1, .class_ 2), (0, u "java/lang/Long"), (15, .class_ 20), (1, u "java/lang/Integer"), (79, u "numberOfLeadingZeros"), (0, u "(J)I"), (133, .class_ 237), (1, u "java/lang/Long$LongCache"), (33, .class_ 272), (0, u "java/lang/Number"), (2, u "value"), (0, u "J"), (31, .methodref 18 309), (0, .nameAndType 100 310), (0, u "(I)I"), (50, u "TYPE"), (0, u "Ljava/lang/Class;"), (0, .class_ 364), (0, u "java/lang/Comparable"), (0, .class_ 366), (0, u "java/lang/constant/Constable"), (0, .class_ 368), (0, u "java/lang/constant/ConstantDesc"), (0, u "MIN_VALUE"), (1, u "MAX_VALUE"), (4, u "SIZE"), (0, u "I"), (1, u "BYTES"), (1, u "serialVersionUID")] 142

def k23c0 : Code := { maxStack := 3, maxLocals := 3, code := jdk_35_method_48_code, exceptionTable := #[], attributes := #[] }
def k23m0 : Method := { name := "numberOfLeadingZeros", desc := "(J)I", sig := { parameters := [.long], returnType := some .int }, accessFlags := 9, code := some k23c0 }
/-- java/lang/Long -/
def k23 : Class := { plain "java/lang/Long" (some 19) with
  accessFlags := 49
  interfaces := #[20, 21, 22]
  cf := some (fileOf pool23 1 #[.nestMembers #[235]] #[{ accessFlags := 9, nameIndex := 100, descriptorIndex := 101, attributes := #[] }] 49 271 #[363, 365, 367] #[{ accessFlags := 25, nameIndex := 369, descriptorIndex := 276, attributes := #[] }, { accessFlags := 25, nameIndex := 371, descriptorIndex := 276, attributes := #[] }, { accessFlags := 25, nameIndex := 361, descriptorIndex := 362, attributes := #[] }, { accessFlags := 18, nameIndex := 275, descriptorIndex := 276, attributes := #[] }, { accessFlags := 25, nameIndex := 376, descriptorIndex := 377, attributes := #[] }, { accessFlags := 25, nameIndex := 379, descriptorIndex := 377, attributes := #[] }, { accessFlags := 26, nameIndex := 381, descriptorIndex := 276, attributes := #[] }])
  fields := #[{ name := "MIN_VALUE", type := .long, accessFlags := 25, slot := 0, constantValue := 0 }, { name := "MAX_VALUE", type := .long, accessFlags := 25, slot := 1, constantValue := 0 }, { name := "TYPE", type := (.object "java/lang/Class"), accessFlags := 25, slot := 2, constantValue := 0 }, { name := "value", type := .long, accessFlags := 18, slot := 0, constantValue := 0 }, { name := "SIZE", type := .int, accessFlags := 25, slot := 3, constantValue := 0 }, { name := "BYTES", type := .int, accessFlags := 25, slot := 4, constantValue := 0 }, { name := "serialVersionUID", type := .long, accessFlags := 26, slot := 5, constantValue := 0 }]
  methods := #[k23m0]
  instanceTypes := #[.long]
  staticTypes := #[.long, .long, (.object "java/lang/Class"), .int, .int, .long]
  resolved := Array.replicate 524 none
  statics := none }

def pool24 : Array CpInfo := pool [(1, .class_ 2), (0, u "java/lang/Integer"), (16, u "digits"), (0, u "[C"), (32, u "numberOfLeadingZeros"), (0, u "(I)I"), (30, u "DigitOnes"), (0, u "[B"), (2, u "DigitTens"), (99, .class_ 190), (0, u "java/lang/Integer$IntegerCache"), (3, u "I"), (8, .class_ 204), (0, u "java/lang/Number"), (2, u "value"), (56, .integer 65536), (37, u "TYPE"), (0, u "Ljava/lang/Class;"), (0, .class_ 305), (0, u "java/lang/Comparable"), (0, .class_ 307), (0, u "java/lang/constant/Constable"), (0, .class_ 309), (0, u "java/lang/constant/ConstantDesc"), (0, u "MIN_VALUE"), (1, u "MAX_VALUE"), (3, u "SIZE"), (1, u "BYTES"), (1, u "serialVersionUID"), (0, u "J")] 131

def k24c0 : Code := { maxStack := 3, maxLocals := 2, code := jdk_33_method_47_code, exceptionTable := #[], attributes := #[] }
def k24m0 : Method := { name := "numberOfLeadingZeros", desc := "(I)I", sig := { parameters := [.int], returnType := some .int }, accessFlags := 9, code := some k24c0 }
/-- java/lang/Integer -/
def k24 : Class := { plain "java/lang/Integer" (some 19) with
  accessFlags := 49
  interfaces := #[20, 21, 22]
  cf := some (fileOf pool24 1 #[.nestMembers #[189]] #[{ accessFlags := 9, nameIndex := 53, descriptorIndex := 54, attributes := #[] }] 49 203 #[304, 306, 308] #[{ accessFlags := 25, nameIndex := 310, descriptorIndex := 194, attributes := #[] }, { accessFlags := 25, nameIndex := 312, descriptorIndex := 194, attributes := #[] }, { accessFlags := 25, nameIndex := 302, descriptorIndex := 303, attributes := #[] }, { accessFlags := 24, nameIndex := 19, descriptorIndex := 20, attributes := #[] }, { accessFlags := 24, nameIndex := 89, descriptorIndex := 86, attributes := #[] }, { accessFlags := 24, nameIndex := 85, descriptorIndex := 86, attributes := #[] }, { accessFlags := 18, nameIndex := 207, descriptorIndex := 194, attributes := #[] }, { accessFlags := 25, nameIndex := 316, descriptorIndex := 194, attributes := #[] }, { accessFlags := 25, nameIndex := 318, descriptorIndex := 194, attributes := #[] }, { accessFlags := 26, nameIndex := 320, descriptorIndex := 321, attributes := #[] }])
  fields := #[{ name := "MIN_VALUE", type := .int, accessFlags := 25, slot := 0, constantValue := 0 }, { name := "MAX_VALUE", type := .int, accessFlags := 25, slot := 1, constantValue := 0 }, { name := "TYPE", type := (.object "java/lang/Class"), accessFlags := 25, slot := 2, constantValue := 0 }, { name := "digits", type := (.array .char), accessFlags := 24, slot := 3, constantValue := 0 }, { name := "DigitTens", type := (.array .byte), accessFlags := 24, slot := 4, constantValue := 0 }, { name := "DigitOnes", type := (.array .byte), accessFlags := 24, slot := 5, constantValue := 0 }, { name := "value", type := .int, accessFlags := 18, slot := 0, constantValue := 0 }, { name := "SIZE", type := .int, accessFlags := 25, slot := 6, constantValue := 0 }, { name := "BYTES", type := .int, accessFlags := 25, slot := 7, constantValue := 0 }, { name := "serialVersionUID", type := .long, accessFlags := 26, slot := 8, constantValue := 0 }]
  methods := #[k24m0]
  instanceTypes := #[.int]
  staticTypes := #[.int, .int, (.object "java/lang/Class"), (.array .char), (.array .byte), (.array .byte), .int, .int, .long]
  resolved := Array.replicate 453 none
  statics := none }

def pool25 : Array CpInfo := pool [(2, .class_ 4), (1, u "java/lang/Object"), (0, u "<init>"), (0, u "()V"), (7, .class_ 16), (1, u "java/util/Arrays"), (57, .class_ 76), (1, u "java/util/Arrays$NaturalOrder"), (36, .class_ 115), (1, u "java/util/Arrays$LegacyMergeSort"), (1, u "Z"), (257, .class_ 376), (0, u "java/util/Arrays$ArrayList"), (68, u "$assertionsDisabled"), (269, u "MIN_ARRAY_SORT_GRAN"), (0, u "I"), (2, u "INSERTIONSORT_THRESHOLD"), (120, u "fill"), (0, u "([JJ)V"), (133, .class_ 976), (0, u "java/util/Arrays$ArrayItr")] 52

def k25m0 : Method := { name := "<init>", desc := "()V", sig := { parameters := [], returnType := none }, accessFlags := 2, code := none }
def k25c1 : Code := { maxStack := 4, maxLocals := 5, code := jdk_65_method_101_code, exceptionTable := #[], attributes := #[] }
def k25m1 : Method := { name := "fill", desc := "([JJ)V", sig := { parameters := [(.array .long), .long], returnType := none }, accessFlags := 9, code := some k25c1 }
/-- java/util/Arrays -/
def k25 : Class := { plain "java/util/Arrays" (some 0) with
  accessFlags := 49
  interfaces := #[]
  cf := some (fileOf pool25 14 #[.nestMembers #[975, 375, 113, 74]] #[{ accessFlags := 2, nameIndex := 5, descriptorIndex := 6, attributes := #[] }, { accessFlags := 9, nameIndex := 840, descriptorIndex := 841, attributes := #[] }] 49 2 #[] #[{ accessFlags := 26, nameIndex := 715, descriptorIndex := 716, attributes := #[] }, { accessFlags := 26, nameIndex := 719, descriptorIndex := 716, attributes := #[] }, { accessFlags := 4120, nameIndex := 445, descriptorIndex := 117, attributes := #[] }])
  fields := #[{ name := "MIN_ARRAY_SORT_GRAN", type := .int, accessFlags := 26, slot := 0, constantValue := 0 }, { name := "INSERTIONSORT_THRESHOLD", type := .int, accessFlags := 26, slot := 1, constantValue := 0 }, { name := "$assertionsDisabled", type := .boolean, accessFlags := 4120, slot := 2, constantValue := 0 }]
  methods := #[k25m0, k25m1]
  instanceTypes := #[]
  staticTypes := #[.int, .int, .boolean]
  resolved := Array.replicate 1029 none
  statics := none }

/-- the primitive byte -/
def k26 : Class := { plain "byte" none with kind := .primitive 'B', accessFlags := 0x411 }
/-- [B -/
def k27 : Class := { plain "[B" (some 0) with kind := .array 26 .byte, interfaces := #[9, 10], accessFlags := 1041 }

/-- the primitive int -/
def k28 : Class := { plain "int" none with kind := .primitive 'I', accessFlags := 0x411 }
/-- [I -/
def k29 : Class := { plain "[I" (some 0) with kind := .array 28 .int, interfaces := #[9, 10], accessFlags := 1041 }

/-- the primitive long -/
def k30 : Class := { plain "long" none with kind := .primitive 'J', accessFlags := 0x411 }
/-- [J -/
def k31 : Class := { plain "[J" (some 0) with kind := .array 30 .long, interfaces := #[9, 10], accessFlags := 1041 }

/-- [Ljava/lang/Object; -/
def k32 : Class := { plain "[Ljava/lang/Object;" (some 0) with kind := .array 0 (.object "java/lang/Object"), interfaces := #[9, 10], accessFlags := 1041 }

def heap : Heap := #[{ cls := 11, slots := #[.long 0, .int 0, .ref 1, .ref 2], vm := .statics 11 },
  { cls := 32, slots := #[], vm := .none },
  { cls := 32, slots := #[], vm := .none }]
def classes : Array Class := #[k0, k1, k2, k3, k4, k5, k6, k7, k8, k9, k10, k11, k12, k13, k14, k15, k16, k17, k18, k19, k20, k21, k22, k23, k24, k25, k26, k27, k28, k29, k30, k31, k32]
def interned : List (Array UInt16 × Addr) := []
def slotsUsed : Nat := 4
def theMethod : MethodId := ⟨1, 4⟩
def args0 : Array Value := #[.long 5, .long 7, .long 9, .long 11, .int 3, .int 2]
def aboutOver (below : List Frame) : State where
  vm := { classes := classes, interned := interned.toArray }
  heap := heap
  slotsUsed := slotsUsed
  threads := #[{ frames := .invoking theMethod args0 :: below }]
def below0 : List Frame := [.native { method := ⟨0, 0⟩, args := #[] }]
def about1 : State := aboutOver below0
def p0 : Program := .bare "" "" ""
def e0 : Env := launch0.env 0 0 0
theorem w_frames : about1.frames = Frame.invoking theMethod args0 :: below0 := rfl
set_option maxRecDepth 65536 in
theorem w_args : argsFit about1.vm theMethod args0 = true := by decide +kernel
set_option maxRecDepth 65536 in
theorem w_heap : heapFits about1 = true := by decide +kernel
set_option maxRecDepth 65536 in
theorem w_runnable : about1.curStatus? = some .runnable := by decide +kernel
set_option maxRecDepth 65536 in
theorem w_alone : about1.alone = true := by decide +kernel
set_option maxRecDepth 65536 in
theorem w_named : about1.methodNamed? x = some theMethod := by decide +kernel
set_option maxRecDepth 65536 in
theorem w_hears : about1.hears theMethod below0 = true := by decide +kernel
set_option maxRecDepth 65536 in
theorem w_ripe : about1.ripe theMethod args0 below0 = true := by decide +kernel
theorem w_running : about1.status = .running := rfl
set_option maxRecDepth 65536 in
theorem w_room : about1.hasRoom e0.platform room_1 = true :=
  launch0.hasRoom_least _ room_1 (by decide +kernel) (by decide +kernel) (by decide +kernel) (by decide +kernel) (by decide +kernel) (by decide +kernel)
theorem allAtoms_all (ts : List Jvm.Cond) (a : Array Jvm.Value) (st : Jvm.State) : (allAtoms ts).before a st = ts.all (fun c => c.before a st) := by
  induction ts with
  | nil => rfl
  | cons c t ih =>
    show (Jvm.Cond.and c (allAtoms t)).before a st = _
    rw [Jvm.Cond.before_and, ih, List.all_cons]
def words1 : List Jvm.Cond := Jvm.Cond.code x code maxLocals ret :: tables_1
/-- a 'code' word, met by the world's own term for the bytes: nothing is compared byte by byte -/
theorem code_word {y : MethodName} {bytes : ByteArray} {mx : Nat} {rt : Option FieldType} {a : Array Value} {s : State} {m : MethodId} {meth : Method} {c : Code} (h1 : s.methodNamed? y = some m) (h2 : s.vm.method? m = some meth) (h3 : meth.code = some c) (h4 : c.code = bytes)
    (h5 : (c.maxLocals == mx && c.exceptionTable.isEmpty && decide (c.maxStack ≤ mostOperands) && decide (meth.sig.returnType = rt) && !meth.locks && decide (parseMethodDescriptor y.desc = some meth.sig)) = true) : (Jvm.Cond.code y bytes mx rt).before a s = true := by
  simp only [Bool.and_eq_true, beq_iff_eq, Bool.not_eq_true', decide_eq_true_eq] at h5
  obtain ⟨⟨⟨⟨⟨g1, g2⟩, g3⟩, g4⟩, g5⟩, g6⟩ := h5
  simp [Cond.before, Cond.holds, Cond.value, h1, h2, h3, h4, g1, g2, g3, g4, g5, g6]
def isCode : Jvm.Cond → Bool
  | .code _ _ _ _ => true
  | _ => false
theorem all_split {L : List Jvm.Cond} {P : Jvm.Cond → Bool} (h1 : L.all (fun c => isCode c || P c) = true) (h2 : ∀ c ∈ L.filter isCode, P c = true) : L.all P = true := by
  refine List.all_eq_true.mpr fun c hc => ?_
  have h := List.all_eq_true.mp h1 c hc
  rcases Bool.eq_false_or_eq_true (isCode c) with hi | hi
  · exact h2 c (List.mem_filter.mpr ⟨hc, hi⟩)
  · simpa [hi] using h
set_option maxRecDepth 65536 in
theorem w_c0 : (Jvm.Cond.code x code maxLocals ret).before args0 about1 = true := code_word (m := ⟨1, 4⟩) (meth := k1m4) (c := k1c4) (by decide +kernel) rfl rfl rfl (by decide +kernel)
set_option maxRecDepth 65536 in
theorem w_c1 : (Jvm.Cond.code ({ cls := "com/example/inya/inya/StateLayoutUnpackPinLaw", name := "hiOf", desc := "(IJ)I" } : Jvm.MethodName) method_2_code (5 : Nat) (Option.some Jvm.ClassFile.FieldType.int)).before args0 about1 = true := code_word (m := ⟨1, 1⟩) (meth := k1m1) (c := k1c1) (by decide +kernel) rfl rfl rfl (by decide +kernel)
set_option maxRecDepth 65536 in
theorem w_c2 : (Jvm.Cond.code ({ cls := "com/example/inya/inya/StateLayoutUnpackPinLaw", name := "pick", desc := "(IIJ)I" } : Jvm.MethodName) method_3_code (6 : Nat) (Option.some Jvm.ClassFile.FieldType.int)).before args0 about1 = true := code_word (m := ⟨1, 2⟩) (meth := k1m2) (c := k1c2) (by decide +kernel) rfl rfl rfl (by decide +kernel)
set_option maxRecDepth 65536 in
theorem w_c3 : (Jvm.Cond.code ({ cls := "java/util/ArrayList", name := "<init>", desc := "()V" } : Jvm.MethodName) jdk_38_method_2_code (1 : Nat) (Option.none : Option Jvm.ClassFile.FieldType)).before args0 about1 = true := code_word (m := ⟨11, 0⟩) (meth := k11m0) (c := k11c0) (by decide +kernel) rfl rfl rfl (by decide +kernel)
set_option maxRecDepth 65536 in
theorem w_c4 : (Jvm.Cond.code ({ cls := "java/util/AbstractList", name := "<init>", desc := "()V" } : Jvm.MethodName) jdk_39_method_1_code (1 : Nat) (Option.none : Option Jvm.ClassFile.FieldType)).before args0 about1 = true := code_word (m := ⟨7, 0⟩) (meth := k7m0) (c := k7c0) (by decide +kernel) rfl rfl rfl (by decide +kernel)
set_option maxRecDepth 65536 in
theorem w_c5 : (Jvm.Cond.code ({ cls := "java/util/AbstractCollection", name := "<init>", desc := "()V" } : Jvm.MethodName) jdk_22_method_1_code (1 : Nat) (Option.none : Option Jvm.ClassFile.FieldType)).before args0 about1 = true := code_word (m := ⟨4, 0⟩) (meth := k4m0) (c := k4c0) (by decide +kernel) rfl rfl rfl (by decide +kernel)
set_option maxRecDepth 65536 in
theorem w_c6 : (Jvm.Cond.code ({ cls := "java/lang/Object", name := "<init>", desc := "()V" } : Jvm.MethodName) object_method_1_code (1 : Nat) (Option.none : Option Jvm.ClassFile.FieldType)).before args0 about1 = true := code_word (m := ⟨0, 0⟩) (meth := k0m0) (c := k0c0) (by decide +kernel) rfl rfl rfl (by decide +kernel)
set_option maxRecDepth 65536 in
theorem w_c7 : (Jvm.Cond.code ({ cls := "com/example/inya/inya/Domain", name := "range", desc := "(II)Lcom/example/inya/inya/Domain;" } : Jvm.MethodName) prog_21_method_2_code (2 : Nat) (Option.some (Jvm.ClassFile.FieldType.object "com/example/inya/inya/Domain"))).before args0 about1 = true := code_word (m := ⟨14, 1⟩) (meth := k14m1) (c := k14c1) (by decide +kernel) rfl rfl rfl (by decide +kernel)
set_option maxRecDepth 65536 in
theorem w_c8 : (Jvm.Cond.code ({ cls := "com/example/inya/inya/Domain", name := "<init>", desc := "(ZII)V" } : Jvm.MethodName) prog_21_method_1_code (4 : Nat) (Option.none : Option Jvm.ClassFile.FieldType)).before args0 about1 = true := code_word (m := ⟨14, 0⟩) (meth := k14m0) (c := k14c0) (by decide +kernel) rfl rfl rfl (by decide +kernel)
set_option maxRecDepth 65536 in
theorem w_c9 : (Jvm.Cond.code ({ cls := "com/example/inya/inya/Variable", name := "<init>", desc := "(Ljava/lang/String;Lcom/example/inya/inya/Role;Lcom/example/inya/inya/Domain;ILcom/example/inya/inya/Position;)V" } : Jvm.MethodName) prog_119_method_1_code (6 : Nat) (Option.none : Option Jvm.ClassFile.FieldType)).before args0 about1 = true := code_word (m := ⟨13, 0⟩) (meth := k13m0) (c := k13c0) (by decide +kernel) rfl rfl rfl (by decide +kernel)
set_option maxRecDepth 65536 in
theorem w_c10 : (Jvm.Cond.code ({ cls := "java/lang/Record", name := "<init>", desc := "()V" } : Jvm.MethodName) jdk_30_method_1_code (1 : Nat) (Option.none : Option Jvm.ClassFile.FieldType)).before args0 about1 = true := code_word (m := ⟨12, 0⟩) (meth := k12m0) (c := k12c0) (by decide +kernel) rfl rfl rfl (by decide +kernel)
set_option maxRecDepth 65536 in
theorem w_c11 : (Jvm.Cond.code ({ cls := "java/util/ArrayList", name := "add", desc := "(Ljava/lang/Object;)Z" } : Jvm.MethodName) jdk_38_method_25_code (2 : Nat) (Option.some Jvm.ClassFile.FieldType.boolean)).before args0 about1 = true := code_word (m := ⟨11, 7⟩) (meth := k11m7) (c := k11c7) (by decide +kernel) rfl rfl rfl (by decide +kernel)
set_option maxRecDepth 65536 in
theorem w_c12 : (Jvm.Cond.code ({ cls := "java/util/ArrayList", name := "add", desc := "(Ljava/lang/Object;[Ljava/lang/Object;I)V" } : Jvm.MethodName) jdk_38_method_24_code (4 : Nat) (Option.none : Option Jvm.ClassFile.FieldType)).before args0 about1 = true := code_word (m := ⟨11, 6⟩) (meth := k11m6) (c := k11c6) (by decide +kernel) rfl rfl rfl (by decide +kernel)
set_option maxRecDepth 65536 in
theorem w_c13 : (Jvm.Cond.code ({ cls := "java/util/ArrayList", name := "grow", desc := "()[Ljava/lang/Object;" } : Jvm.MethodName) jdk_38_method_7_code (1 : Nat) (Option.some (Jvm.ClassFile.FieldType.array (Jvm.ClassFile.FieldType.object "java/lang/Object")))).before args0 about1 = true := code_word (m := ⟨11, 2⟩) (meth := k11m2) (c := k11c2) (by decide +kernel) rfl rfl rfl (by decide +kernel)
set_option maxRecDepth 65536 in
theorem w_c14 : (Jvm.Cond.code ({ cls := "java/util/ArrayList", name := "grow", desc := "(I)[Ljava/lang/Object;" } : Jvm.MethodName) jdk_38_method_6_code (4 : Nat) (Option.some (Jvm.ClassFile.FieldType.array (Jvm.ClassFile.FieldType.object "java/lang/Object")))).before args0 about1 = true := code_word (m := ⟨11, 1⟩) (meth := k11m1) (c := k11c1) (by decide +kernel) rfl rfl rfl (by decide +kernel)
set_option maxRecDepth 65536 in
theorem w_c15 : (Jvm.Cond.code ({ cls := "java/lang/Math", name := "max", desc := "(II)I" } : Jvm.MethodName) jdk_29_method_65_code (2 : Nat) (Option.some Jvm.ClassFile.FieldType.int)).before args0 about1 = true := code_word (m := ⟨15, 1⟩) (meth := k15m1) (c := k15c1) (by decide +kernel) rfl rfl rfl (by decide +kernel)
set_option maxRecDepth 65536 in
theorem w_c16 : (Jvm.Cond.code ({ cls := "com/example/inya/inya/StateLayout", name := "<init>", desc := "(Ljava/util/List;)V" } : Jvm.MethodName) prog_77_method_1_code (10 : Nat) (Option.none : Option Jvm.ClassFile.FieldType)).before args0 about1 = true := code_word (m := ⟨16, 0⟩) (meth := k16m0) (c := k16c0) (by decide +kernel) rfl rfl rfl (by decide +kernel)
set_option maxRecDepth 65536 in
theorem w_c17 : (Jvm.Cond.code ({ cls := "java/util/ArrayList", name := "size", desc := "()I" } : Jvm.MethodName) jdk_38_method_8_code (1 : Nat) (Option.some Jvm.ClassFile.FieldType.int)).before args0 about1 = true := code_word (m := ⟨11, 3⟩) (meth := k11m3) (c := k11c3) (by decide +kernel) rfl rfl rfl (by decide +kernel)
set_option maxRecDepth 65536 in
theorem w_c18 : (Jvm.Cond.code ({ cls := "java/util/ArrayList", name := "get", desc := "(I)Ljava/lang/Object;" } : Jvm.MethodName) jdk_38_method_20_code (2 : Nat) (Option.some (Jvm.ClassFile.FieldType.object "java/lang/Object"))).before args0 about1 = true := code_word (m := ⟨11, 5⟩) (meth := k11m5) (c := k11c5) (by decide +kernel) rfl rfl rfl (by decide +kernel)
set_option maxRecDepth 65536 in
theorem w_c19 : (Jvm.Cond.code ({ cls := "java/util/Objects", name := "checkIndex", desc := "(II)I" } : Jvm.MethodName) jdk_31_method_17_code (2 : Nat) (Option.some Jvm.ClassFile.FieldType.int)).before args0 about1 = true := code_word (m := ⟨17, 1⟩) (meth := k17m1) (c := k17c1) (by decide +kernel) rfl rfl rfl (by decide +kernel)
set_option maxRecDepth 65536 in
theorem w_c20 : (Jvm.Cond.code ({ cls := "jdk/internal/util/Preconditions", name := "checkIndex", desc := "(IILjava/util/function/BiFunction;)I" } : Jvm.MethodName) jdk_41_method_11_code (3 : Nat) (Option.some Jvm.ClassFile.FieldType.int)).before args0 about1 = true := code_word (m := ⟨18, 1⟩) (meth := k18m1) (c := k18c1) (by decide +kernel) rfl rfl rfl (by decide +kernel)
set_option maxRecDepth 65536 in
theorem w_c21 : (Jvm.Cond.code ({ cls := "java/util/ArrayList", name := "elementData", desc := "(I)Ljava/lang/Object;" } : Jvm.MethodName) jdk_38_method_18_code (2 : Nat) (Option.some (Jvm.ClassFile.FieldType.object "java/lang/Object"))).before args0 about1 = true := code_word (m := ⟨11, 4⟩) (meth := k11m4) (c := k11c4) (by decide +kernel) rfl rfl rfl (by decide +kernel)
set_option maxRecDepth 65536 in
theorem w_c22 : (Jvm.Cond.code ({ cls := "com/example/inya/inya/Variable", name := "domain", desc := "()Lcom/example/inya/inya/Domain;" } : Jvm.MethodName) prog_119_method_7_code (1 : Nat) (Option.some (Jvm.ClassFile.FieldType.object "com/example/inya/inya/Domain"))).before args0 about1 = true := code_word (m := ⟨13, 1⟩) (meth := k13m1) (c := k13c1) (by decide +kernel) rfl rfl rfl (by decide +kernel)
set_option maxRecDepth 65536 in
theorem w_c23 : (Jvm.Cond.code ({ cls := "com/example/inya/inya/Domain", name := "size", desc := "()J" } : Jvm.MethodName) prog_21_method_6_code (1 : Nat) (Option.some Jvm.ClassFile.FieldType.long)).before args0 about1 = true := code_word (m := ⟨14, 3⟩) (meth := k14m3) (c := k14c3) (by decide +kernel) rfl rfl rfl (by decide +kernel)
set_option maxRecDepth 65536 in
theorem w_c24 : (Jvm.Cond.code ({ cls := "java/lang/Long", name := "numberOfLeadingZeros", desc := "(J)I" } : Jvm.MethodName) jdk_35_method_48_code (3 : Nat) (Option.some Jvm.ClassFile.FieldType.int)).before args0 about1 = true := code_word (m := ⟨23, 0⟩) (meth := k23m0) (c := k23c0) (by decide +kernel) rfl rfl rfl (by decide +kernel)
set_option maxRecDepth 65536 in
theorem w_c25 : (Jvm.Cond.code ({ cls := "java/lang/Integer", name := "numberOfLeadingZeros", desc := "(I)I" } : Jvm.MethodName) jdk_33_method_47_code (2 : Nat) (Option.some Jvm.ClassFile.FieldType.int)).before args0 about1 = true := code_word (m := ⟨24, 0⟩) (meth := k24m0) (c := k24c0) (by decide +kernel) rfl rfl rfl (by decide +kernel)
set_option maxRecDepth 65536 in
theorem w_c26 : (Jvm.Cond.code ({ cls := "com/example/inya/inya/Variable", name := "index", desc := "()I" } : Jvm.MethodName) prog_119_method_8_code (1 : Nat) (Option.some Jvm.ClassFile.FieldType.int)).before args0 about1 = true := code_word (m := ⟨13, 2⟩) (meth := k13m2) (c := k13c2) (by decide +kernel) rfl rfl rfl (by decide +kernel)
set_option maxRecDepth 65536 in
theorem w_c27 : (Jvm.Cond.code ({ cls := "com/example/inya/inya/Domain", name := "lo", desc := "()I" } : Jvm.MethodName) prog_21_method_4_code (1 : Nat) (Option.some Jvm.ClassFile.FieldType.int)).before args0 about1 = true := code_word (m := ⟨14, 2⟩) (meth := k14m2) (c := k14c2) (by decide +kernel) rfl rfl rfl (by decide +kernel)
set_option maxRecDepth 65536 in
theorem w_c28 : (Jvm.Cond.code ({ cls := "com/example/inya/inya/StateLayout", name := "pack", desc := "([I[J)V" } : Jvm.MethodName) prog_77_method_5_code (4 : Nat) (Option.none : Option Jvm.ClassFile.FieldType)).before args0 about1 = true := code_word (m := ⟨16, 2⟩) (meth := k16m2) (c := k16c2) (by decide +kernel) rfl rfl rfl (by decide +kernel)
set_option maxRecDepth 65536 in
theorem w_c29 : (Jvm.Cond.code ({ cls := "java/util/Arrays", name := "fill", desc := "([JJ)V" } : Jvm.MethodName) jdk_65_method_101_code (5 : Nat) (Option.none : Option Jvm.ClassFile.FieldType)).before args0 about1 = true := code_word (m := ⟨25, 1⟩) (meth := k25m1) (c := k25c1) (by decide +kernel) rfl rfl rfl (by decide +kernel)
set_option maxRecDepth 65536 in
theorem w_c30 : (Jvm.Cond.code ({ cls := "com/example/inya/inya/StateLayout", name := "words", desc := "()I" } : Jvm.MethodName) prog_77_method_4_code (1 : Nat) (Option.some Jvm.ClassFile.FieldType.int)).before args0 about1 = true := code_word (m := ⟨16, 1⟩) (meth := k16m1) (c := k16c1) (by decide +kernel) rfl rfl rfl (by decide +kernel)
set_option maxRecDepth 65536 in
theorem w_c31 : (Jvm.Cond.code ({ cls := "com/example/inya/inya/StateLayout", name := "unpack", desc := "([JI[II)V" } : Jvm.MethodName) prog_77_method_7_code (6 : Nat) (Option.none : Option Jvm.ClassFile.FieldType)).before args0 about1 = true := code_word (m := ⟨16, 3⟩) (meth := k16m3) (c := k16c3) (by decide +kernel) rfl rfl rfl (by decide +kernel)
set_option maxRecDepth 65536 in
theorem w_c32 : (Jvm.Cond.code ({ cls := "com/example/inya/inya/StateLayoutUnpackPinLaw", name := "exp", desc := "(IIIIIIIII)I" } : Jvm.MethodName) method_4_code (9 : Nat) (Option.some Jvm.ClassFile.FieldType.int)).before args0 about1 = true := code_word (m := ⟨1, 3⟩) (meth := k1m3) (c := k1c3) (by decide +kernel) rfl rfl rfl (by decide +kernel)
def codes1 : List Jvm.Cond := [Jvm.Cond.code x code maxLocals ret, Jvm.Cond.code ({ cls := "com/example/inya/inya/StateLayoutUnpackPinLaw", name := "hiOf", desc := "(IJ)I" } : Jvm.MethodName) method_2_code (5 : Nat) (Option.some Jvm.ClassFile.FieldType.int), Jvm.Cond.code ({ cls := "com/example/inya/inya/StateLayoutUnpackPinLaw", name := "pick", desc := "(IIJ)I" } : Jvm.MethodName) method_3_code (6 : Nat) (Option.some Jvm.ClassFile.FieldType.int), Jvm.Cond.code ({ cls := "java/util/ArrayList", name := "<init>", desc := "()V" } : Jvm.MethodName) jdk_38_method_2_code (1 : Nat) (Option.none : Option Jvm.ClassFile.FieldType), Jvm.Cond.code ({ cls := "java/util/AbstractList", name := "<init>", desc := "()V" } : Jvm.MethodName) jdk_39_method_1_code (1 : Nat) (Option.none : Option Jvm.ClassFile.FieldType), Jvm.Cond.code ({ cls := "java/util/AbstractCollection", name := "<init>", desc := "()V" } : Jvm.MethodName) jdk_22_method_1_code (1 : Nat) (Option.none : Option Jvm.ClassFile.FieldType), Jvm.Cond.code ({ cls := "java/lang/Object", name := "<init>", desc := "()V" } : Jvm.MethodName) object_method_1_code (1 : Nat) (Option.none : Option Jvm.ClassFile.FieldType), Jvm.Cond.code ({ cls := "com/example/inya/inya/Domain", name := "range", desc := "(II)Lcom/example/inya/inya/Domain;" } : Jvm.MethodName) prog_21_method_2_code (2 : Nat) (Option.some (Jvm.ClassFile.FieldType.object "com/example/inya/inya/Domain")), Jvm.Cond.code ({ cls := "com/example/inya/inya/Domain", name := "<init>", desc := "(ZII)V" } : Jvm.MethodName) prog_21_method_1_code (4 : Nat) (Option.none : Option Jvm.ClassFile.FieldType), Jvm.Cond.code ({ cls := "com/example/inya/inya/Variable", name := "<init>", desc := "(Ljava/lang/String;Lcom/example/inya/inya/Role;Lcom/example/inya/inya/Domain;ILcom/example/inya/inya/Position;)V" } : Jvm.MethodName) prog_119_method_1_code (6 : Nat) (Option.none : Option Jvm.ClassFile.FieldType), Jvm.Cond.code ({ cls := "java/lang/Record", name := "<init>", desc := "()V" } : Jvm.MethodName) jdk_30_method_1_code (1 : Nat) (Option.none : Option Jvm.ClassFile.FieldType), Jvm.Cond.code ({ cls := "java/util/ArrayList", name := "add", desc := "(Ljava/lang/Object;)Z" } : Jvm.MethodName) jdk_38_method_25_code (2 : Nat) (Option.some Jvm.ClassFile.FieldType.boolean), Jvm.Cond.code ({ cls := "java/util/ArrayList", name := "add", desc := "(Ljava/lang/Object;[Ljava/lang/Object;I)V" } : Jvm.MethodName) jdk_38_method_24_code (4 : Nat) (Option.none : Option Jvm.ClassFile.FieldType), Jvm.Cond.code ({ cls := "java/util/ArrayList", name := "grow", desc := "()[Ljava/lang/Object;" } : Jvm.MethodName) jdk_38_method_7_code (1 : Nat) (Option.some (Jvm.ClassFile.FieldType.array (Jvm.ClassFile.FieldType.object "java/lang/Object"))), Jvm.Cond.code ({ cls := "java/util/ArrayList", name := "grow", desc := "(I)[Ljava/lang/Object;" } : Jvm.MethodName) jdk_38_method_6_code (4 : Nat) (Option.some (Jvm.ClassFile.FieldType.array (Jvm.ClassFile.FieldType.object "java/lang/Object"))), Jvm.Cond.code ({ cls := "java/lang/Math", name := "max", desc := "(II)I" } : Jvm.MethodName) jdk_29_method_65_code (2 : Nat) (Option.some Jvm.ClassFile.FieldType.int), Jvm.Cond.code ({ cls := "com/example/inya/inya/StateLayout", name := "<init>", desc := "(Ljava/util/List;)V" } : Jvm.MethodName) prog_77_method_1_code (10 : Nat) (Option.none : Option Jvm.ClassFile.FieldType), Jvm.Cond.code ({ cls := "java/util/ArrayList", name := "size", desc := "()I" } : Jvm.MethodName) jdk_38_method_8_code (1 : Nat) (Option.some Jvm.ClassFile.FieldType.int), Jvm.Cond.code ({ cls := "java/util/ArrayList", name := "get", desc := "(I)Ljava/lang/Object;" } : Jvm.MethodName) jdk_38_method_20_code (2 : Nat) (Option.some (Jvm.ClassFile.FieldType.object "java/lang/Object")), Jvm.Cond.code ({ cls := "java/util/Objects", name := "checkIndex", desc := "(II)I" } : Jvm.MethodName) jdk_31_method_17_code (2 : Nat) (Option.some Jvm.ClassFile.FieldType.int), Jvm.Cond.code ({ cls := "jdk/internal/util/Preconditions", name := "checkIndex", desc := "(IILjava/util/function/BiFunction;)I" } : Jvm.MethodName) jdk_41_method_11_code (3 : Nat) (Option.some Jvm.ClassFile.FieldType.int), Jvm.Cond.code ({ cls := "java/util/ArrayList", name := "elementData", desc := "(I)Ljava/lang/Object;" } : Jvm.MethodName) jdk_38_method_18_code (2 : Nat) (Option.some (Jvm.ClassFile.FieldType.object "java/lang/Object")), Jvm.Cond.code ({ cls := "com/example/inya/inya/Variable", name := "domain", desc := "()Lcom/example/inya/inya/Domain;" } : Jvm.MethodName) prog_119_method_7_code (1 : Nat) (Option.some (Jvm.ClassFile.FieldType.object "com/example/inya/inya/Domain")), Jvm.Cond.code ({ cls := "com/example/inya/inya/Domain", name := "size", desc := "()J" } : Jvm.MethodName) prog_21_method_6_code (1 : Nat) (Option.some Jvm.ClassFile.FieldType.long), Jvm.Cond.code ({ cls := "java/lang/Long", name := "numberOfLeadingZeros", desc := "(J)I" } : Jvm.MethodName) jdk_35_method_48_code (3 : Nat) (Option.some Jvm.ClassFile.FieldType.int), Jvm.Cond.code ({ cls := "java/lang/Integer", name := "numberOfLeadingZeros", desc := "(I)I" } : Jvm.MethodName) jdk_33_method_47_code (2 : Nat) (Option.some Jvm.ClassFile.FieldType.int), Jvm.Cond.code ({ cls := "com/example/inya/inya/Variable", name := "index", desc := "()I" } : Jvm.MethodName) prog_119_method_8_code (1 : Nat) (Option.some Jvm.ClassFile.FieldType.int), Jvm.Cond.code ({ cls := "com/example/inya/inya/Domain", name := "lo", desc := "()I" } : Jvm.MethodName) prog_21_method_4_code (1 : Nat) (Option.some Jvm.ClassFile.FieldType.int), Jvm.Cond.code ({ cls := "com/example/inya/inya/StateLayout", name := "pack", desc := "([I[J)V" } : Jvm.MethodName) prog_77_method_5_code (4 : Nat) (Option.none : Option Jvm.ClassFile.FieldType), Jvm.Cond.code ({ cls := "java/util/Arrays", name := "fill", desc := "([JJ)V" } : Jvm.MethodName) jdk_65_method_101_code (5 : Nat) (Option.none : Option Jvm.ClassFile.FieldType), Jvm.Cond.code ({ cls := "com/example/inya/inya/StateLayout", name := "words", desc := "()I" } : Jvm.MethodName) prog_77_method_4_code (1 : Nat) (Option.some Jvm.ClassFile.FieldType.int), Jvm.Cond.code ({ cls := "com/example/inya/inya/StateLayout", name := "unpack", desc := "([JI[II)V" } : Jvm.MethodName) prog_77_method_7_code (6 : Nat) (Option.none : Option Jvm.ClassFile.FieldType), Jvm.Cond.code ({ cls := "com/example/inya/inya/StateLayoutUnpackPinLaw", name := "exp", desc := "(IIIIIIIII)I" } : Jvm.MethodName) method_4_code (9 : Nat) (Option.some Jvm.ClassFile.FieldType.int)]
set_option maxRecDepth 65536 in
theorem codes_eq : words1.filter isCode = codes1 := rfl
theorem w_codes : ∀ c ∈ words1.filter isCode, c.before args0 about1 = true := by
  rw [codes_eq]
  intro c hc
  simp only [codes1, List.mem_cons, List.not_mem_nil, or_false] at hc
  rcases hc with rfl | rfl | rfl | rfl | rfl | rfl | rfl | rfl | rfl | rfl | rfl | rfl | rfl | rfl | rfl | rfl | rfl | rfl | rfl | rfl | rfl | rfl | rfl | rfl | rfl | rfl | rfl | rfl | rfl | rfl | rfl | rfl | rfl
  · exact w_c0
  · exact w_c1
  · exact w_c2
  · exact w_c3
  · exact w_c4
  · exact w_c5
  · exact w_c6
  · exact w_c7
  · exact w_c8
  · exact w_c9
  · exact w_c10
  · exact w_c11
  · exact w_c12
  · exact w_c13
  · exact w_c14
  · exact w_c15
  · exact w_c16
  · exact w_c17
  · exact w_c18
  · exact w_c19
  · exact w_c20
  · exact w_c21
  · exact w_c22
  · exact w_c23
  · exact w_c24
  · exact w_c25
  · exact w_c26
  · exact w_c27
  · exact w_c28
  · exact w_c29
  · exact w_c30
  · exact w_c31
  · exact w_c32
set_option maxRecDepth 65536 in
theorem w_t1 : (words1.take 24).all (fun c => isCode c || c.before args0 about1) = true := by decide +kernel
set_option maxRecDepth 65536 in
theorem w_t2 : ((words1.drop 24).take 24).all (fun c => isCode c || c.before args0 about1) = true := by decide +kernel
set_option maxRecDepth 65536 in
theorem w_t3 : (((words1.drop 24).drop 24).take 24).all (fun c => isCode c || c.before args0 about1) = true := by decide +kernel
set_option maxRecDepth 65536 in
theorem w_t4 : ((((words1.drop 24).drop 24).drop 24).take 24).all (fun c => isCode c || c.before args0 about1) = true := by decide +kernel
set_option maxRecDepth 65536 in
theorem w_t5 : (((((words1.drop 24).drop 24).drop 24).drop 24).take 24).all (fun c => isCode c || c.before args0 about1) = true := by decide +kernel
set_option maxRecDepth 65536 in
theorem w_t6 : ((((((words1.drop 24).drop 24).drop 24).drop 24).drop 24).take 24).all (fun c => isCode c || c.before args0 about1) = true := by decide +kernel
set_option maxRecDepth 65536 in
theorem w_t7 : (((((((words1.drop 24).drop 24).drop 24).drop 24).drop 24).drop 24).take 24).all (fun c => isCode c || c.before args0 about1) = true := by decide +kernel
set_option maxRecDepth 65536 in
theorem w_t8 : ((((((((words1.drop 24).drop 24).drop 24).drop 24).drop 24).drop 24).drop 24).take 24).all (fun c => isCode c || c.before args0 about1) = true := by decide +kernel
set_option maxRecDepth 65536 in
theorem w_t9 : ((((((((words1.drop 24).drop 24).drop 24).drop 24).drop 24).drop 24).drop 24).drop 24).all (fun c => isCode c || c.before args0 about1) = true := by decide +kernel
theorem w_tables : (allAtoms (Jvm.Cond.code x code maxLocals ret :: tables_1)).before args0 about1 = true := by
  rw [allAtoms_all]
  show words1.all (fun c => c.before args0 about1) = true
  refine all_split ?_ w_codes
  rw [← List.take_append_drop 24 words1, List.all_append, w_t1, ← List.take_append_drop 24 (words1.drop 24), List.all_append, w_t2, ← List.take_append_drop 24 ((words1.drop 24).drop 24), List.all_append, w_t3, ← List.take_append_drop 24 (((words1.drop 24).drop 24).drop 24), List.all_append, w_t4, ← List.take_append_drop 24 ((((words1.drop 24).drop 24).drop 24).drop 24), List.all_append, w_t5, ← List.take_append_drop 24 (((((words1.drop 24).drop 24).drop 24).drop 24).drop 24), List.all_append, w_t6, ← List.take_append_drop 24 ((((((words1.drop 24).drop 24).drop 24).drop 24).drop 24).drop 24), List.all_append, w_t7, ← List.take_append_drop 24 (((((((words1.drop 24).drop 24).drop 24).drop 24).drop 24).drop 24).drop 24), List.all_append, w_t8, w_t9]
  rfl
set_option maxRecDepth 65536 in
theorem w_rest : rest_1_c.before args0 about1 = true := by decide +kernel
set_option maxRecDepth 65536 in
theorem w_case : (Jvm.Cond.and given_1 narrow_1).before args0 about1 = true := by decide +kernel
theorem w_applies : (headSpec (Jvm.Cond.code x code maxLocals ret :: tables_1) room_1).applies x e0.platform about1 = true :=
  (Spec.applies_iff w_frames).mpr ⟨w_running, w_runnable, w_alone, w_named, w_hears, w_ripe, w_room, w_tables⟩
theorem atStart : AtStart classFile x code maxLocals ret World_1 tables_1 room_1 Calls_1 rest_1 Pre_1 launch0 p0 e0 about1 theMethod args0 below0 :=
  ⟨lists_1, trivial, launch0.admits_env _ _ _, launch0.least_env, fairChoices_fair.cas, fairChoices_fair.clock, w_frames, w_args, w_heap, w_applies, trivial, w_rest, w_case⟩
end start1
theorem witness_1 : WitnessClaimed_1 := ⟨start1.p0, start1.e0, start1.about1, start1.theMethod, start1.args0, start1.below0, start1.atStart⟩
end Jvm.Pilot.@@N@@
