import JvmDerived
import JvmDerived.Pilot.@@N@@Statement
import JvmDerived.Pilot.@@N@@Code
set_option linter.unusedVariables false
set_option linter.unusedSimpArgs false
namespace Jvm.Pilot.@@N@@
open Jvm Jvm.ClassFile Sem Op Lib Jvm.Free Jvm.Stand Jvm.LawKit Jvm.RoadKit Bundle Jvm.Pilot.@@N@@.Jvm.D
/-! OWN KIT: a walk as a goal that goes forward (OGets), and a list of the fresh objects with what they hold (OView) -/
section OwnKit
variable {p : Program} {l : Launch} {e : Env} {R : Room} {s : State} {m : MethodId} {args : Array Value} {below : List Frame} {meth : Method} {c : Code} {T : State} {locs : List Loc} {cells slots : Nat} {Z : State} {a0 : Array Value} {h h' : Heap} {n0 : Nat}
/-- from U the run comes to an end that P allows -/
def OGets (p : Program) (e : Env) (below : List Frame) (P : State → Outcome → Prop) (U : State) : Prop := ∃ s₂ o, Steps p.tables e below U s₂ ∧ s₂.status = .running ∧ Ended s₂ below o ∧ P s₂ o
def OLeaves (s : State) (Q : Option Value → Heap → List Loc → Prop) (k n : Nat) (t : State) (o : Outcome) : Prop := ∃ v L, o = .returned v ∧ Q v t.heap L ∧ FrameEnd s o t L k n
theorem OGets.step {P : State → Outcome → Prop} {U U' : State} (k : ∀ t, Steps p.tables e below U' t → Steps p.tables e below U t) (g : OGets p e below P U') : OGets p e below P U := by
  obtain ⟨t, o, h1, h2⟩ := g
  exact ⟨t, o, k t h1, h2⟩
theorem OGets.after {P : State → Outcome → Prop} {U U' : State} (k : Steps p.tables e below U U') (g : OGets p e below P U') : OGets p e below P U := by
  obtain ⟨t, o, h1, h2⟩ := g
  exact ⟨t, o, k.trans h1, h2⟩
theorem OGets.enter {P : State → Outcome → Prop} {g g' : JFrame} (q : g = g') (k : OGets p e below P (T.setTop g')) : OGets p e below P (T.setTop g) := q ▸ k
theorem OGets.cut {P : State → Outcome → Prop} {U U' : State} (k : OGets p e below P U') (f : OGets p e below P U' → OGets p e below P U) : OGets p e below P U := f k
theorem OGets.retN (X : Stand p l e R s m args below meth c T locs cells slots) (hx : p.tables.exec = Jvm.exec) (hk : meth.locks = false) {t : FieldType} (hret : meth.sig.returnType = some t) (ht : t = .boolean ∨ t = .byte ∨ t = .char ∨ t = .short) {pc : Nat} {Ls : Array Slot} {z : Int32} {rest : List Value}
    (hd : decode c.code pc = .ok (.ireturn, 1)) {Q : Option Value → Heap → List Loc → Prop} {k n : Nat} (hc : cells ≤ k) (hs : slots ≤ n) (hQ : Q (some (.int (nar t z))) T.heap locs) : OGets p e below (OLeaves s Q k n) (T.setTop (mkF m pc Ls (.int z :: rest))) := by
  obtain ⟨fs, hr, hrun, hended, hW, hsame⟩ := X.leave (v := some (.int (nar t z))) (fun h => by rw [hret] at h; cases h) hk
  exact ⟨_, _, Jvm.RoadKit.retN X hx hret ht hd hr, hrun, hended, _, _, rfl, hQ, ⟨_, rfl⟩, hW, hsame.mono hc hs⟩
theorem OGets.retI (X : Stand p l e R s m args below meth c T locs cells slots) (hx : p.tables.exec = Jvm.exec) (hk : meth.locks = false) (hret : meth.sig.returnType = some .int) {pc : Nat} {Ls : Array Slot} {z : Int32} {rest : List Value}
    (hd : decode c.code pc = .ok (.ireturn, 1)) {Q : Option Value → Heap → List Loc → Prop} {k n : Nat} (hc : cells ≤ k) (hs : slots ≤ n) (hQ : Q (some (.int z)) T.heap locs) : OGets p e below (OLeaves s Q k n) (T.setTop (mkF m pc Ls (.int z :: rest))) := by
  obtain ⟨fs, hr, hrun, hended, hW, hsame⟩ := X.leave (v := some (.int z)) (fun h => by rw [hret] at h; cases h) hk
  exact ⟨_, _, Jvm.RoadKit.retOut X hx hret rfl (Or.inl ⟨rfl, Or.inl rfl, _, rfl⟩) hd hr, hrun, hended, _, _, rfl, hQ, ⟨_, rfl⟩, hW, hsame.mono hc hs⟩
theorem OGets.retJ (X : Stand p l e R s m args below meth c T locs cells slots) (hx : p.tables.exec = Jvm.exec) (hk : meth.locks = false) (hret : meth.sig.returnType = some .long) {pc : Nat} {Ls : Array Slot} {z : Int64} {rest : List Value}
    (hd : decode c.code pc = .ok (.lreturn, 1)) {Q : Option Value → Heap → List Loc → Prop} {k n : Nat} (hc : cells ≤ k) (hs : slots ≤ n) (hQ : Q (some (.long z)) T.heap locs) : OGets p e below (OLeaves s Q k n) (T.setTop (mkF m pc Ls (.long z :: rest))) := by
  obtain ⟨fs, hr, hrun, hended, hW, hsame⟩ := X.leave (v := some (.long z)) (fun h => by rw [hret] at h; cases h) hk
  exact ⟨_, _, Jvm.RoadKit.retOut X hx hret rfl (Or.inr (Or.inl ⟨rfl, rfl, _, rfl⟩)) hd hr, hrun, hended, _, _, rfl, hQ, ⟨_, rfl⟩, hW, hsame.mono hc hs⟩
theorem OGets.retA (X : Stand p l e R s m args below meth c T locs cells slots) (hx : p.tables.exec = Jvm.exec) (hk : meth.locks = false) {t : FieldType} (hret : meth.sig.returnType = some t) (ht : t.isReference = true) {pc : Nat} {Ls : Array Slot} {w : Value} {rest : List Value} (hw : w.isRef = true) (hn : narrow t w = w)
    (hd : decode c.code pc = .ok (.areturn, 1)) {Q : Option Value → Heap → List Loc → Prop} {k n : Nat} (hc : cells ≤ k) (hs : slots ≤ n) (hQ : Q (some w) T.heap locs) : OGets p e below (OLeaves s Q k n) (T.setTop (mkF m pc Ls (w :: rest))) := by
  obtain ⟨fs, hr, hrun, hended, hW, hsame⟩ := X.leave (v := some w) (fun h => by rw [hret] at h; cases h) hk
  exact ⟨_, _, Jvm.RoadKit.retOut X hx hret hn (Or.inr (Or.inr (Or.inr (Or.inr ⟨rfl, ht, hw⟩)))) hd hr, hrun, hended, _, _, rfl, hQ, ⟨_, rfl⟩, hW, hsame.mono hc hs⟩
theorem OGets.retV (X : Stand p l e R s m args below meth c T locs cells slots) (hx : p.tables.exec = Jvm.exec) (hk : meth.locks = false) (hret : meth.sig.returnType = none) {pc : Nat} {Ls : Array Slot}
    (hd : decode c.code pc = .ok (.return_, 1)) {Q : Option Value → Heap → List Loc → Prop} {k n : Nat} (hc : cells ≤ k) (hs : slots ≤ n) (hQ : Q none T.heap locs) : OGets p e below (OLeaves s Q k n) (T.setTop (mkF m pc Ls [])) := by
  obtain ⟨fs, hr, hrun, hended, hW, hsame⟩ := X.leave (v := none) (fun _ => rfl) hk
  exact ⟨_, _, X.returnOut hx hret hd hr, hrun, hended, _, _, rfl, hQ, ⟨_, rfl⟩, hW, hsame.mono hc hs⟩
/-- an object (class, fields, their values) or an array (what it is of, its components) -/
abbrev OObj : Type := Sum (String × List (String × String × String) × List Value) (FieldType × List Value)
def OHold (Z : State) (h : Heap) (a : Addr) (o : OObj) : Prop :=
  (∀ q, o = Sum.inl q → Exa Z h a q.1 ∧ q.2.1.Pairwise (fun x y => Jvm.RoadKit.slotOf Z x.1 x.2.1 x.2.2 ≠ Jvm.RoadKit.slotOf Z y.1 y.2.1 y.2.2) ∧ ∀ (j : Nat) (k : String × String × String) (v : Value), q.2.1[j]? = some k → q.2.2[j]? = some v → Fld Z h a k.1 k.2.1 k.2.2 v) ∧
  (∀ q, o = Sum.inr q → ∃ cl : Cell, Arr Z h a cl q.1 ∧ cl.slots.toList = q.2 ∧ (q.1 = .long → Exa Z h a "[J"))
variable {a b : Addr} {o : OObj} {sl : Nat} {v : Value} {os : List (Addr × OObj)} {C : String} {ns : List (String × String × String)} {vs : List Value} {ty : FieldType}
theorem OHold.other (W : Wr h h' a sl v) (hne : b ≠ a) (H : OHold Z h b o) : OHold Z h' b o := by
  refine ⟨fun q hq => ?_, fun q hq => ?_⟩
  · obtain ⟨h1, h2, h3⟩ := H.1 q hq
    exact ⟨h1.wr W, h2, fun j k w e1 e2 => (h3 j k w e1 e2).other W (Or.inl hne)⟩
  · obtain ⟨cl, h1, h2, h3⟩ := H.2 q hq
    exact ⟨cl, h1.other W hne, h2, fun e => (h3 e).wr W⟩
theorem OHold.ext (E : Ext h h') (H : OHold Z h b o) : OHold Z h' b o := by
  refine ⟨fun q hq => ?_, fun q hq => ?_⟩
  · obtain ⟨h1, h2, h3⟩ := H.1 q hq
    exact ⟨h1.ext E, h2, fun j k w e1 e2 => (h3 j k w e1 e2).ext E⟩
  · obtain ⟨cl, h1, h2, h3⟩ := H.2 q hq
    exact ⟨cl, h1.ext E, h2, fun e => (h3 e).ext E⟩
theorem OHold.obj (h1 : Exa Z h a C) (h2 : ns.Pairwise (fun x y => Jvm.RoadKit.slotOf Z x.1 x.2.1 x.2.2 ≠ Jvm.RoadKit.slotOf Z y.1 y.2.1 y.2.2)) (h3 : ∀ (j : Nat) (k : String × String × String) (v : Value), ns[j]? = some k → vs[j]? = some v → Fld Z h a k.1 k.2.1 k.2.2 v) : OHold Z h a (Sum.inl (C, ns, vs)) :=
  ⟨fun q hq => (by cases hq; exact ⟨h1, h2, h3⟩), fun q hq => (by cases hq)⟩
theorem OHold.arr {cl : Cell} (h1 : Arr Z h a cl ty) (h2 : cl.slots.toList = vs) (h3 : ty = .long → Exa Z h a "[J") : OHold Z h a (Sum.inr (ty, vs)) :=
  ⟨fun q hq => (by cases hq), fun q hq => (by cases hq; exact ⟨cl, h1, h2, h3⟩)⟩
theorem OHold.putF (H : OHold Z h a (Sum.inl (C, ns, vs))) {j : Nat} {k : String × String × String} (hj : ns[j]? = some k) (W : Wr h h' a (Jvm.RoadKit.slotOf Z k.1 k.2.1 k.2.2) v) : OHold Z h' a (Sum.inl (C, ns, vs.set j v)) := by
  obtain ⟨h1, h2, h3⟩ := H.1 _ rfl
  refine OHold.obj (h1.wr W) h2 fun i k' w e1 e2 => ?_
  by_cases q : j = i
  · subst q
    rw [hj] at e1; cases e1
    rw [List.getElem?_set] at e2
    split at e2
    · split at e2
      · rename_i hlt
        cases e2
        exact (h3 j k _ hj (List.getElem?_eq_getElem hlt)).same W
      · cases e2
    · exact absurd rfl ‹_›
  · rw [List.getElem?_set_ne q] at e2
    refine (h3 i k' w e1 e2).other W (Or.inr ?_)
    obtain ⟨hi, e1⟩ := List.getElem?_eq_some_iff.mp e1
    obtain ⟨hj', hj⟩ := List.getElem?_eq_some_iff.mp hj
    have P := List.pairwise_iff_getElem.mp h2
    subst e1 hj
    rcases Nat.lt_or_gt_of_ne q with q | q
    · exact (P j i hj' hi q).symm
    · exact P i j hi hj' q
theorem OHold.putA (H : OHold Z h a (Sum.inr (ty, vs))) {j : Nat} (W : Wr h h' a j v) : OHold Z h' a (Sum.inr (ty, vs.set j v)) := by
  obtain ⟨cl, h1, h2, h3⟩ := H.2 _ rfl
  exact OHold.arr (h1.same W) (by show (cl.slots.setIfInBounds j v).toList = vs.set j v; rw [Array.toList_setIfInBounds]; exact congrArg (fun z => z.set j v) h2) (fun e => (h3 e).wr W)
/-- the objects made since the law began, as a list: no two at one place, none old, each as said -/
def OView (Z : State) (n0 : Nat) (h : Heap) (os : List (Addr × OObj)) : Prop := (os.map (·.1)).Nodup ∧ ∀ q ∈ os, n0 ≤ q.1 ∧ q.1 < h.size ∧ OHold Z h q.1 q.2
theorem OView.nil (Z : State) (n0 : Nat) (h : Heap) : OView Z n0 h [] := ⟨List.nodup_nil, fun q hq => by cases hq⟩
theorem OView.perm {os' : List (Addr × OObj)} (V : OView Z n0 h os) (P : os.Perm os') : OView Z n0 h os' := ⟨(P.map _).nodup_iff.mp V.1, fun q hq => V.2 q (P.mem_iff.mpr hq)⟩
theorem own_bring {α : Type} : ∀ (os : List α) (i : Nat) (q : α), os[i]? = some q → os.Perm (q :: os.eraseIdx i)
  | [], i, q, hq => by cases hq
  | x :: t, 0, q, hq => by cases hq; exact List.Perm.refl _
  | x :: t, i + 1, q, hq => (List.Perm.cons x (own_bring t i q hq)).trans (List.Perm.swap q x _)
theorem own_set {α : Type} : ∀ (os : List α) (i : Nat) (q r : α), os[i]? = some q → (r :: os.eraseIdx i).Perm (os.set i r)
  | [], i, q, r, hq => by cases hq
  | x :: t, 0, q, r, hq => List.Perm.refl _
  | x :: t, i + 1, q, r, hq => (List.Perm.swap x r _).trans (List.Perm.cons x (own_set t i q r hq))
theorem OView.bring (V : OView Z n0 h os) (i : Nat) {q : Addr × OObj} (hq : os[i]? = some q) : OView Z n0 h (q :: os.eraseIdx i) := V.perm (own_bring os i q hq)
theorem OView.at (V : OView Z n0 h os) (i : Nat) {q : Addr × OObj} (hq : os[i]? = some q) : n0 ≤ q.1 ∧ q.1 < h.size ∧ OHold Z h q.1 q.2 := V.2 q (List.mem_of_getElem? hq)
theorem OView.old (V : OView Z n0 h os) (i : Nat) {a : Addr} {o : OObj} (hq : os[i]? = some (a, o)) : n0 ≤ a := (V.at i hq).1
theorem OView.big (V : OView Z n0 h os) (i : Nat) {q : Addr × OObj} (hq : os[i]? = some q) : n0 ≤ h.size := Nat.le_trans (V.at i hq).1 (Nat.le_of_lt (V.at i hq).2.1)
theorem OView.exa (V : OView Z n0 h os) (i : Nat) {a : Addr} (hq : os[i]? = some (a, Sum.inl (C, ns, vs))) : Exa Z h a C := ((V.at i hq).2.2.1 _ rfl).1
theorem OView.fld (V : OView Z n0 h os) (i : Nat) {a : Addr} (hq : os[i]? = some (a, Sum.inl (C, ns, vs))) (j : Nat) {O n d : String} (hj : ns[j]? = some (O, n, d)) (hv : vs[j]? = some v) : Fld Z h a O n d v := ((V.at i hq).2.2.1 _ rfl).2.2 j _ v hj hv
theorem OView.arx (V : OView Z n0 h os) (i : Nat) {a : Addr} (hq : os[i]? = some (a, Sum.inr (ty, vs))) : ∃ cl : Cell, Arr Z h a cl ty ∧ cl.slots.toList = vs ∧ (ty = .long → Exa Z h a "[J") := (V.at i hq).2.2.2 _ rfl
theorem OView.arr (V : OView Z n0 h os) (i : Nat) {a : Addr} (hq : os[i]? = some (a, Sum.inr (ty, vs))) : ∃ cl : Cell, Arr Z h a cl ty ∧ cl.slots.toList = vs := by
  obtain ⟨cl, h1, h2, -⟩ := V.arx i hq
  exact ⟨cl, h1, h2⟩
theorem OView.exj (V : OView Z n0 h os) (i : Nat) {a : Addr} (hq : os[i]? = some (a, Sum.inr (.long, vs))) : Exa Z h a "[J" := by
  obtain ⟨cl, -, -, h3⟩ := V.arx i hq
  exact h3 rfl
theorem OView.tail {q : Addr × OObj} (V : OView Z n0 h (q :: os)) : OView Z n0 h os := ⟨(List.nodup_cons.mp V.1).2, fun r hr => V.2 r (List.mem_cons_of_mem _ hr)⟩
theorem OView.up (V : OView Z n0 h os) (W : Wr h h' a sl v) (i : Nat) {o o' : OObj} (hq : os[i]? = some (a, o)) (H : OHold Z h' a o') : OView Z n0 h' (os.set i (a, o')) := by
  have V1 := V.bring i hq
  have V2 : OView Z n0 h' ((a, o') :: os.eraseIdx i) := by
    refine ⟨V1.1, fun q hq' => ?_⟩
    rcases List.mem_cons.mp hq' with rfl | hq'
    · exact ⟨(V.at i hq).1, by rw [W.size]; exact (V.at i hq).2.1, H⟩
    · obtain ⟨h1, h2, h3⟩ := V1.2 q (List.mem_cons_of_mem _ hq')
      refine ⟨h1, by rw [W.size]; exact h2, h3.other W fun e => ?_⟩
      have := (List.nodup_cons.mp V1.1).1
      exact this (List.mem_map.mpr ⟨q, hq', e⟩)
  exact V2.perm (own_set os i _ _ hq)
theorem OView.putF (V : OView Z n0 h os) (i : Nat) (hq : os[i]? = some (a, Sum.inl (C, ns, vs))) (j : Nat) {O n d : String} (hj : ns[j]? = some (O, n, d)) (W : Wr h h' a (Jvm.RoadKit.slotOf Z O n d) v) : OView Z n0 h' (os.set i (a, Sum.inl (C, ns, vs.set j v))) := V.up W i hq ((V.at i hq).2.2.putF hj W)
theorem OView.putA (V : OView Z n0 h os) (i : Nat) (hq : os[i]? = some (a, Sum.inr (ty, vs))) {j : Nat} (W : Wr h h' a j v) : OView Z n0 h' (os.set i (a, Sum.inr (ty, vs.set j v))) := V.up W i hq ((V.at i hq).2.2.putA W)
theorem OView.ext (V : OView Z n0 h os) (E : Ext h h') : OView Z n0 h' os := ⟨V.1, fun q hq => ⟨(V.2 q hq).1, Nat.lt_of_lt_of_le (V.2 q hq).2.1 E.1, (V.2 q hq).2.2.ext E⟩⟩
theorem OView.cons (V : OView Z n0 h os) (hn : n0 ≤ h.size) (E : Ext h h') (hlt : h.size < h'.size) (H : OHold Z h' h.size o) : OView Z n0 h' ((h.size, o) :: os) := by
  refine ⟨List.nodup_cons.mpr ⟨fun hm => ?_, V.1⟩, fun q hq => ?_⟩
  · obtain ⟨q, h1, h2⟩ := List.mem_map.mp hm
    exact Nat.lt_irrefl _ (h2 ▸ (V.2 q h1).2.1)
  · rcases List.mem_cons.mp hq with rfl | hq
    · exact ⟨hn, hlt, H⟩
    · exact (V.ext E).2 q hq
theorem own_pair (hL : ∀ x ∈ ns, Laid Z a0 C x.1 x.2.1 x.2.2) (hd : ∀ x ∈ ns, (parseFieldDescriptor x.2.2).isSome = true) (hn : ns.Pairwise (fun x y => x.2.1 ≠ y.2.1)) : ns.Pairwise (fun x y => Jvm.RoadKit.slotOf Z x.1 x.2.1 x.2.2 ≠ Jvm.RoadKit.slotOf Z y.1 y.2.1 y.2.2) :=
  hn.imp_of_mem fun {x y} hx hy hne => by
    obtain ⟨t, ht⟩ := Option.isSome_iff_exists.mp (hd x hx)
    obtain ⟨t', ht'⟩ := Option.isSome_iff_exists.mp (hd y hy)
    exact slot_ne (hL x hx) (hL y hy) hne ht ht'
/-- a fresh object, as 'new' leaves it -/
theorem OView.newObj (V : OView Z n0 h os) (hn : n0 ≤ h.size) (E : Ext h h') (A : Exa Z h' h.size C) (D : ∀ {O nm d : String} {ty : FieldType}, Laid Z a0 C O nm d → parseFieldDescriptor d = some ty → Fld Z h' h.size O nm d (defaultValue ty))
    (hL : ∀ x ∈ ns, Laid Z a0 C x.1 x.2.1 x.2.2) (hd : ns.map (fun x => (parseFieldDescriptor x.2.2).map defaultValue) = vs.map some) (hnm : ns.Pairwise (fun x y => x.2.1 ≠ y.2.1)) : OView Z n0 h' ((h.size, Sum.inl (C, ns, vs)) :: os) := by
  have hs : ∀ x ∈ ns, (parseFieldDescriptor x.2.2).isSome = true := fun x hx => by
    have h1 : (parseFieldDescriptor x.2.2).map defaultValue ∈ vs.map some := hd ▸ List.mem_map.mpr ⟨x, hx, rfl⟩
    obtain ⟨w, -, h2⟩ := List.mem_map.mp h1
    cases hp : parseFieldDescriptor x.2.2 with
    | none => rw [hp] at h2; cases h2
    | some t => rfl
  refine V.cons hn E A.lt (OHold.obj A (own_pair hL hs hnm) fun j k w e1 e2 => ?_)
  have h1 : (ns.map (fun x => (parseFieldDescriptor x.2.2).map defaultValue))[j]? = some ((parseFieldDescriptor k.2.2).map defaultValue) := by rw [List.getElem?_map, e1]; rfl
  have h2 : (vs.map some)[j]? = some (some w) := by rw [List.getElem?_map, e2]; rfl
  rw [hd, h2] at h1
  have h3 := Option.some.inj h1
  cases hp : parseFieldDescriptor k.2.2 with
  | none => rw [hp] at h3; cases h3
  | some t =>
    rw [hp] at h3
    cases Option.some.inj h3
    exact D (hL k (List.mem_of_getElem? e1)) hp
/-- a fresh array -/
theorem OView.newArr (V : OView Z n0 h os) (hn : n0 ≤ h.size) (E : Ext h h') {cA : ClassId} {z : Int32} (A : Arr Z h' h.size (newA cA ty z) ty) (k : Nat) (hk : z.toNatClampNeg = k) (hno : ty = .long → Exa Z h' h.size "[J" := by intro h; cases h) : OView Z n0 h' ((h.size, Sum.inr (ty, List.replicate k (defaultValue ty))) :: os) := by
  refine V.cons hn E A.lt (OHold.arr A ?_ hno)
  rw [← hk]; simp [newA]
/-- a copy of an array of longs -/
theorem OView.newClone (V : OView Z n0 h os) (hn : n0 ≤ h.size) (E : Ext h h') {cl : Cell} (A : Arr Z h' h.size (cloneOf cl) .long) (X : Exa Z h' h.size "[J") (hs : cl.slots.toList = vs) : OView Z n0 h' ((h.size, Sum.inr (.long, vs)) :: os) :=
  V.cons hn E A.lt (OHold.arr A hs (fun _ => X))
theorem own_fit {cl : Cell} {L : List Int64} (A : Arr Z h a cl .long) (hs : cl.slots.toList = L.map Value.long) : FitC Z cl := fitC_of A fun i hi v hv => by
  rw [← Array.getElem?_toList, hs, List.getElem?_map] at hv
  obtain ⟨x, -, rfl⟩ := Option.map_eq_some_iff.mp hv
  rfl
theorem OHold.keep {ws : List Addr} (K : Keep h h' ws) (hb : b ∉ ws) (H : OHold Z h b o) : OHold Z h' b o := by
  refine ⟨fun q hq => ?_, fun q hq => ?_⟩
  · obtain ⟨h1, h2, h3⟩ := H.1 q hq
    exact ⟨h1.keep K, h2, fun j k w e1 e2 => (h3 j k w e1 e2).keep K hb⟩
  · obtain ⟨cl, h1, h2, h3⟩ := H.2 q hq
    exact ⟨cl, ⟨K.2.1 _ cl h1.1 hb, h1.2⟩, h2, fun e => (h3 e).keep K⟩
theorem own_arv {cl : Cell} {L : List Int64} (A : Arr Z h a cl .long) (hs : cl.slots.toList = L.map Value.long) (z : Int32) (hz : z.toInt = (L.length : Int)) : Arv Z h a cl.cls .long z (L.map Value.long) (.long 0) := by
  have h1 : cl.slots.size = L.length := by have := congrArg List.length hs; simpa using this
  have h2 : z.toNatClampNeg = L.length := by simp only [Int32.toNatClampNeg, hz]; omega
  have h3 : ∀ i, (L.map Value.long).getD i (.long 0) = .long (L.getD i 0) := fun i => by
    rw [List.getD_eq_getElem?_getD, List.getD_eq_getElem?_getD, List.getElem?_map]; cases L[i]? <;> rfl
  refine ⟨cl, A, rfl, by rw [h1, h2], ?_, fun i hi => ?_, fun i hi => by rw [h3]; rfl⟩
  · rw [Int32.lt_iff_toInt_lt, hz]; have : (0 : Int32).toInt = 0 := rfl; omega
  · rw [← Array.getElem?_toList, hs, List.getD_eq_getElem?_getD, List.getElem?_map, List.getElem?_eq_getElem (by omega)]; rfl
theorem own_ofArv {k : ClassId} {z : Int32} {us : List Value} {dd : Value} (A : Arv Z h a k .long z us dd) (hz : z.toNatClampNeg = us.length) : ∃ cl : Cell, Arr Z h a cl .long ∧ cl.slots.toList = us := by
  obtain ⟨cl, Ar, -, hsz, -, H, -⟩ := A
  refine ⟨cl, Ar, List.ext_getElem? fun i => ?_⟩
  by_cases hi : i < cl.slots.size
  · have h1 := H i hi
    rw [Array.getElem?_toList, h1, List.getD_eq_getElem?_getD]
    have h2 : i < us.length := by omega
    simp [h2]
  · rw [Array.getElem?_toList, Array.getElem?_eq_none (by omega), List.getElem?_eq_none (by omega)]
/-- the array at b is written by a copy -/
theorem OView.copied (V : OView Z n0 h os) (i : Nat) (hq : os[i]? = some (b, Sum.inr (.long, vs))) (K : Keep h h' [b]) {k : ClassId} {z : Int32} {us : List Value} {dd : Value} (A : Arv Z h' b k .long z us dd) (hz : z.toNatClampNeg = us.length) : OView Z n0 h' (os.set i (b, Sum.inr (.long, us))) := by
  have V1 := V.bring i hq
  obtain ⟨cl, Ar, hs⟩ := own_ofArv A hz
  have V2 : OView Z n0 h' ((b, Sum.inr (.long, us)) :: os.eraseIdx i) := by
    refine ⟨V1.1, fun q hq' => ?_⟩
    rcases List.mem_cons.mp hq' with rfl | hq'
    · exact ⟨(V.at i hq).1, Ar.lt, OHold.arr Ar hs (fun _ => (V.exj i hq).keep K)⟩
    · obtain ⟨h1, h2, h3⟩ := V1.2 q (List.mem_cons_of_mem _ hq')
      refine ⟨h1, Nat.lt_of_lt_of_le h2 K.1, h3.keep K fun hm => ?_⟩
      have := (List.nodup_cons.mp V1.1).1
      exact this (List.mem_map.mpr ⟨q, hq', List.mem_singleton.mp hm⟩)
  exact V2.perm (own_set os i _ _ hq)
theorem own_inb {cl : Cell} {vs : List Value} (hs : cl.slots.toList = vs) {j : Int32} (k : Nat) (hj : j.toInt = (k : Int)) (hk : k < vs.length) : ¬ (j < 0 ∨ cl.slots.size ≤ j.toNatClampNeg) := by
  have h1 : cl.slots.size = vs.length := by rw [← hs]; simp
  have e0 : (0 : Int32).toInt = 0 := rfl
  rw [h1]
  simp only [Int32.lt_iff_toInt_lt, Int32.toNatClampNeg, hj, e0]
  omega
theorem own_clamp {j : Int32} (k : Nat) (hj : j.toInt = (k : Int)) : j.toNatClampNeg = k := by simp only [Int32.toNatClampNeg, hj]; omega
theorem own_get {cl : Cell} {vs : List Value} (hs : cl.slots.toList = vs) {j : Int32} (k : Nat) (hj : j.toInt = (k : Int)) {v : Value} (hv : vs[k]? = some v) : cl.slots[j.toNatClampNeg]? = some v := by
  rw [own_clamp k hj, ← Array.getElem?_toList, hs]; exact hv
theorem own_wr {vs : List Value} {j : Int32} (k : Nat) (hj : j.toInt = (k : Int)) (W : Wr h h' a j.toNatClampNeg v) : Wr h h' a k v := by rw [own_clamp k hj] at W; exact W
theorem own_len {cl : Cell} {vs : List Value} (hs : cl.slots.toList = vs) : cl.slots.size = vs.length := by rw [← hs]; simp
end OwnKit
/-! OWN KIT, third part: arrays of ints and longs as lists, read and written at a place that is an int -/
section OwnSym
variable {p : Program} {l : Launch} {e : Env} {R : Room} {s : State} {m : MethodId} {args : Array Value} {below : List Frame} {meth : Method} {c : Code} {T : State} {locs : List Loc} {cells slots : Nat} {Z : State} {a0 : Array Value} {h h' : Heap} {n0 : Nat}
def gi (C : List Int32) (j : Int32) : Int32 := C.getD j.toNatClampNeg 0
def si (C : List Int32) (j x : Int32) : List Int32 := C.set j.toNatClampNeg x
def gj (C : List Int64) (j : Int32) : Int64 := C.getD j.toNatClampNeg 0
def sj (C : List Int64) (j : Int32) (x : Int64) : List Int64 := C.set j.toNatClampNeg x
theorem si_len (C : List Int32) (j x : Int32) : (si C j x).length = C.length := by simp [si]
theorem sj_len (C : List Int64) (j : Int32) (x : Int64) : (sj C j x).length = C.length := by simp [sj]
/-- the place lies in an array of n -/
def inb (n : Nat) (j : Int32) : Prop := 0 ≤ j.toInt ∧ j.toInt < (n : Int)
instance (n : Nat) (j : Int32) : Decidable (inb n j) := by unfold inb; exact inferInstance
theorem own_sin {cl : Cell} {vs : List Value} (hs : cl.slots.toList = vs) {n : Nat} (hl : vs.length = n) {j : Int32} (hj : inb n j) : ¬ (j < 0 ∨ cl.slots.size ≤ j.toNatClampNeg) := by
  have h1 : cl.slots.size = n := by rw [← hl, ← hs]; simp
  have e0 : (0 : Int32).toInt = 0 := rfl
  obtain ⟨h2, h3⟩ := hj
  rw [h1]
  simp only [Int32.lt_iff_toInt_lt, Int32.toNatClampNeg, e0]
  omega
theorem own_sgetI {cl : Cell} {C : List Int32} (hs : cl.slots.toList = C.map Value.int) {n : Nat} (hl : C.length = n) {j : Int32} (hj : inb n j) : cl.slots[j.toNatClampNeg]? = some (.int (gi C j)) := by
  obtain ⟨h2, h3⟩ := hj
  have h4 : j.toNatClampNeg < C.length := by simp only [Int32.toNatClampNeg]; omega
  rw [← Array.getElem?_toList, hs, List.getElem?_map, gi, List.getD_eq_getElem?_getD, List.getElem?_eq_getElem h4]; rfl
theorem own_sgetJ {cl : Cell} {C : List Int64} (hs : cl.slots.toList = C.map Value.long) {n : Nat} (hl : C.length = n) {j : Int32} (hj : inb n j) : cl.slots[j.toNatClampNeg]? = some (.long (gj C j)) := by
  obtain ⟨h2, h3⟩ := hj
  have h4 : j.toNatClampNeg < C.length := by simp only [Int32.toNatClampNeg]; omega
  rw [← Array.getElem?_toList, hs, List.getElem?_map, gj, List.getD_eq_getElem?_getD, List.getElem?_eq_getElem h4]; rfl
theorem OView.putI (V : OView Z n0 h os) (i : Nat) {a : Addr} {C : List Int32} (hq : os[i]? = some (a, Sum.inr (.int, C.map Value.int))) {j x : Int32} (W : Wr h h' a j.toNatClampNeg (.int x)) : OView Z n0 h' (os.set i (a, Sum.inr (.int, (si C j x).map Value.int))) := by
  have := V.putA i hq W
  rw [← List.map_set] at this
  exact this
theorem OView.putJ (V : OView Z n0 h os) (i : Nat) {a : Addr} {C : List Int64} (hq : os[i]? = some (a, Sum.inr (.long, C.map Value.long))) {j : Int32} {x : Int64} (W : Wr h h' a j.toNatClampNeg (.long x)) : OView Z n0 h' (os.set i (a, Sum.inr (.long, (sj C j x).map Value.long))) := by
  have := V.putA i hq W
  rw [← List.map_set] at this
  exact this
theorem OGets.cutI {P : State → Outcome → Prop} {U : State} (C : Int32 → Prop) {f : Int32 → State} (k : ∀ t, C t → OGets p e below P (f t)) (g : (∀ t, C t → OGets p e below P (f t)) → OGets p e below P U) : OGets p e below P U := g k
theorem own_mvM {own host : String} {index : Nat} {y : MethodName} (hZ : Z.Warmed39 s.vm) (w : (Cond.methodLinkNest own index y host).before a0 Z = true) : (Cond.methodLinkNest own index y host).before args s = true := (Cond.methodLinkNest_wide hZ w :)
/-- a private method of a nest mate, by its contract -/
theorem own_nest (X : Stand p l e R s m args below meth c T locs cells slots) (hexec : p.tables.exec = Jvm.exec) {own host : String} {index : Nat} {y : MethodName} {bytes : ByteArray} {maxL : Nat} {ret : Option FieldType} {kk : Nat}
    (hown : s.vm.findClass own = some m.cls) (hlink : (Cond.methodLinkNest own index y host).before args s = true) (hinst : (Cond.instanceMethod y).before args s = true) (hi : (Cond.instantiable y.cls kk).before args s = true)
    (hpriv : s.PrivateAt y) (hcode : (Cond.code y bytes maxL ret).before args s = true) (hy : y.cls ≠ "java/lang/invoke/MethodHandle" ∧ y.cls ≠ "java/lang/invoke/VarHandle")
    {W : Nat} {Pre : Pt → Array Value → Prop} {Post : Pt → Array Value → Option Value → Pt → Prop} (hK : Back l R p e below s args y 3 W Pre Post)
    {g : JFrame} (hg : g.method = m) (hsize : g.locals.size = c.maxLocals) {a : Addr} {cell : Cell} (hcell : T.heap[a]? = some cell) (hobj : ∀ q, cell.vm ≠ .statics q)
    {argsL rest : List Value} (hlen : ∀ sig, parseMethodDescriptor y.desc = some sig → argsL.length = sig.parameters.length)
    (hstack : g.stack = argsL.reverse ++ .ref a :: rest) (hW : 2 * g.monitorRoom + (rest.map fun v => v.category).sum ≤ W) (hdg : decode c.code g.pc = .ok (.invokevirtual index, 3))
    (hpre : ∀ vm₁, s.WarmedH vm₁ → Pre ⟨T.setVm vm₁, locs, cells, slots⟩ (.ref a :: argsL).toArray) :
    ∃ (v : Option Value) (vm₁ : Vm) (B : Pt), s.WarmedH vm₁ ∧ Stand p l e R s m args below meth c B.U B.locs B.cells B.slots ∧ Post ⟨T.setVm vm₁, locs, cells, slots⟩ (.ref a :: argsL).toArray v B ∧
      Steps p.tables e below (T.setTop g) (B.U.setTop { g with pc := g.pc + 3, stack := v.toList ++ rest }) := by
  obtain ⟨mk, methM, hnamed, hmethM, hstM, habM⟩ := Cond.instanceMethod_spec hinst
  obtain ⟨methM', cM, hmethM', -, -, -, -, -, -, hsigM⟩ := Cond.code_spec hnamed hcode
  cases hmethM.symm.trans hmethM'
  obtain ⟨cI, kI, i1, i2, i3, i4⟩ := Cond.instantiable_spec hi
  have hcls := findClass_of_methodNamed hnamed
  cases i1.symm.trans hcls
  have hselP : selectMethod e.platform s.vm cell.cls mk = .method mk := selectMethod_private hmethM (hpriv mk methM hnamed hmethM)
  have hni : kI.isInterface = false := (Bool.or_eq_false_iff.mp i4.1).1
  obtain ⟨vm₁, X₁, hstep₁⟩ := X.invokevirtualNest hexec hown hlink hnamed hmethM hstM i2 hni hy (a := a) (cell := cell) hcell hobj hselP hmethM habM i2 hni (g := g) hg (argsL := argsL) (rest := rest) (hlen _ hsigM) hstack hdg
  obtain ⟨v, B, X', hpost, hsteps⟩ := hK m meth c ⟨T.setVm vm₁, locs, cells, slots⟩ { g with stack := rest } (.invokevirtual index) mk (.ref a :: argsL).toArray X₁ hg hsize hdg hW (X₁.named hnamed) (hpre vm₁ X₁.warmed)
  exact ⟨v, vm₁, B, X₁.warmed, X', hpost, hstep₁ _ fun acts => by rw [doInvoke_state]; exact hsteps⟩
end OwnSym
theorem own_gd (L : List Int64) (i : Nat) : (L.map Value.long).getD i (.long 0) = .long (L.getD i 0) := by
  rw [List.getD_eq_getElem?_getD, List.getD_eq_getElem?_getD, List.getElem?_map]; cases L[i]? <;> rfl
theorem own_us1 (L : List Int64) (k : Int32) : [Value.long (gj L k)] = (List.range (1 : Int32).toNatClampNeg).map fun i => (L.map Value.long).getD (k.toNatClampNeg + i) (.long 0) := by
  show _ = [(L.map Value.long).getD (k.toNatClampNeg + 0) (.long 0)]
  rw [own_gd]; rfl
theorem own_us2 (L : List Int64) (k k' : Int32) (h : k'.toNatClampNeg = k.toNatClampNeg + 1) : [Value.long (gj L k), Value.long (gj L k')] = (List.range (2 : Int32).toNatClampNeg).map fun i => (L.map Value.long).getD (k.toNatClampNeg + i) (.long 0) := by
  show _ = [(L.map Value.long).getD (k.toNatClampNeg + 0) (.long 0), (L.map Value.long).getD (k.toNatClampNeg + 1) (.long 0)]
  rw [own_gd, own_gd, ← h]; rfl
theorem own_l4 (a b c d : Int64) : [a, b, c, d].length = 4 := rfl
def ns_SearchPath : List (String × String × String) := [("com/example/inya/inya/SearchPath", "pairs", "[I"), ("com/example/inya/inya/SearchPath", "steps", "[I"), ("com/example/inya/inya/SearchPath", "stepEdges", "[[I"), ("com/example/inya/inya/SearchPath", "nextEdges", "[I"), ("com/example/inya/inya/SearchPath", "taken", "[I"), ("com/example/inya/inya/SearchPath", "words", "I"), ("com/example/inya/inya/SearchPath", "gathered", "[J"), ("com/example/inya/inya/SearchPath", "cameBy", "[J"), ("com/example/inya/inya/SearchPath", "size", "I")]
theorem lay_ns_SearchPath {Z : State} {a0 : Array Value} (hw : ∀ d ∈ tables_1, d.before a0 Z = true) : ∀ x ∈ ns_SearchPath, Laid Z a0 "com/example/inya/inya/SearchPath" x.1 x.2.1 x.2.2 := by
  intro x hx
  simp only [ns_SearchPath, List.mem_cons, List.not_mem_nil, or_false] at hx
  rcases hx with rfl | rfl | rfl | rfl | rfl | rfl | rfl | rfl | rfl
  · exact Or.inl (hw _ (List.mem_of_getElem? (i := 12) rfl))
  · exact Or.inl (hw _ (List.mem_of_getElem? (i := 14) rfl))
  · exact Or.inl (hw _ (List.mem_of_getElem? (i := 18) rfl))
  · exact Or.inl (hw _ (List.mem_of_getElem? (i := 20) rfl))
  · exact Or.inl (hw _ (List.mem_of_getElem? (i := 22) rfl))
  · exact Or.inr (hw _ (List.mem_of_getElem? (i := 24) rfl))
  · exact Or.inl (hw _ (List.mem_of_getElem? (i := 26) rfl))
  · exact Or.inl (hw _ (List.mem_of_getElem? (i := 28) rfl))
  · exact Or.inl (hw _ (List.mem_of_getElem? (i := 35) rfl))
def ns_BitSet : List (String × String × String) := [("java/util/BitSet", "wordsInUse", "I"), ("java/util/BitSet", "sizeIsSticky", "Z"), ("java/util/BitSet", "words", "[J")]
theorem lay_ns_BitSet {Z : State} {a0 : Array Value} (hw : ∀ d ∈ tables_1, d.before a0 Z = true) : ∀ x ∈ ns_BitSet, Laid Z a0 "java/util/BitSet" x.1 x.2.1 x.2.2 := by
  intro x hx
  simp only [ns_BitSet, List.mem_cons, List.not_mem_nil, or_false] at hx
  rcases hx with rfl | rfl | rfl
  · exact Or.inl (hw _ (List.mem_of_getElem? (i := 94) rfl))
  · exact Or.inl (hw _ (List.mem_of_getElem? (i := 96) rfl))
  · exact Or.inl (hw _ (List.mem_of_getElem? (i := 98) rfl))
abbrev oP (a : Addr) (v : List Value) : Addr × OObj := (a, Sum.inl ("com/example/inya/inya/SearchPath", ns_SearchPath, v))
abbrev oS (a : Addr) (v : List Value) : Addr × OObj := (a, Sum.inl ("java/util/BitSet", ns_BitSet, v))
abbrev oN (a : Addr) : Addr × OObj := (a, Sum.inr (.array .int, List.replicate 16 .null))
abbrev oA (a : Addr) (v : List Int32) : Addr × OObj := (a, Sum.inr (.int, v.map Value.int))
abbrev oB (a : Addr) (v : List Int64) : Addr × OObj := (a, Sum.inr (.long, v.map Value.long))
theorem ow {Z : State} {a0 : Array Value} (hw : ∀ d ∈ tables_1, d.before a0 Z = true) (i : Nat) {d : Jvm.Cond} (h : tables_1[i]? = some d) : d.before a0 Z = true := hw d (List.mem_of_getElem? h)
abbrev iv (x : Int32) : Slot := .val (.int x)
abbrev jv (x : Int64) : Slot := .val (.long x)
abbrev rv (x : Addr) : Slot := .val (.ref x)
abbrev uv : Slot := .unset
abbrev sv : Slot := .second
theorem pn_0 : plainName "com/example/inya/inya/SearchPath" = true := by first | (simp [plainName, overriddenIn]; done) | decide +kernel
theorem d71m1_0 : decode prog_71_method_1_code 0 = .ok (.aload_n 0, 1) := by decide +kernel
theorem d71m1_1 : decode prog_71_method_1_code 1 = .ok (.invokespecial 1, 3) := by decide +kernel
theorem d71m1_4 : decode prog_71_method_1_code 4 = .ok (.aload_n 0, 1) := by decide +kernel
theorem d71m1_5 : decode prog_71_method_1_code 5 = .ok (.bipush 16, 2) := by decide +kernel
theorem d71m1_7 : decode prog_71_method_1_code 7 = .ok (.newarray .int, 2) := by decide +kernel
theorem d71m1_9 : decode prog_71_method_1_code 9 = .ok (.putfield 7, 3) := by decide +kernel
theorem d71m1_12 : decode prog_71_method_1_code 12 = .ok (.aload_n 0, 1) := by decide +kernel
theorem d71m1_13 : decode prog_71_method_1_code 13 = .ok (.bipush 16, 2) := by decide +kernel
theorem d71m1_15 : decode prog_71_method_1_code 15 = .ok (.newarray .int, 2) := by decide +kernel
theorem d71m1_17 : decode prog_71_method_1_code 17 = .ok (.putfield 13, 3) := by decide +kernel
theorem d71m1_20 : decode prog_71_method_1_code 20 = .ok (.aload_n 0, 1) := by decide +kernel
theorem d71m1_21 : decode prog_71_method_1_code 21 = .ok (.bipush 16, 2) := by decide +kernel
theorem d71m1_23 : decode prog_71_method_1_code 23 = .ok (.anewarray 16, 3) := by decide +kernel
theorem d71m1_26 : decode prog_71_method_1_code 26 = .ok (.putfield 17, 3) := by decide +kernel
theorem d71m1_29 : decode prog_71_method_1_code 29 = .ok (.aload_n 0, 1) := by decide +kernel
theorem d71m1_30 : decode prog_71_method_1_code 30 = .ok (.bipush 16, 2) := by decide +kernel
theorem d71m1_32 : decode prog_71_method_1_code 32 = .ok (.newarray .int, 2) := by decide +kernel
theorem d71m1_34 : decode prog_71_method_1_code 34 = .ok (.putfield 21, 3) := by decide +kernel
theorem d71m1_37 : decode prog_71_method_1_code 37 = .ok (.aload_n 0, 1) := by decide +kernel
theorem d71m1_38 : decode prog_71_method_1_code 38 = .ok (.bipush 16, 2) := by decide +kernel
theorem d71m1_40 : decode prog_71_method_1_code 40 = .ok (.newarray .int, 2) := by decide +kernel
theorem d71m1_42 : decode prog_71_method_1_code 42 = .ok (.putfield 24, 3) := by decide +kernel
theorem d71m1_45 : decode prog_71_method_1_code 45 = .ok (.aload_n 0, 1) := by decide +kernel
theorem d71m1_46 : decode prog_71_method_1_code 46 = .ok (.iload_n 1, 1) := by decide +kernel
theorem d71m1_47 : decode prog_71_method_1_code 47 = .ok (.putfield 27, 3) := by decide +kernel
theorem d71m1_50 : decode prog_71_method_1_code 50 = .ok (.aload_n 0, 1) := by decide +kernel
theorem d71m1_51 : decode prog_71_method_1_code 51 = .ok (.bipush 16, 2) := by decide +kernel
theorem d71m1_53 : decode prog_71_method_1_code 53 = .ok (.iload_n 1, 1) := by decide +kernel
theorem d71m1_54 : decode prog_71_method_1_code 54 = .ok (.imul, 1) := by decide +kernel
theorem d71m1_55 : decode prog_71_method_1_code 55 = .ok (.newarray .long, 2) := by decide +kernel
theorem d71m1_57 : decode prog_71_method_1_code 57 = .ok (.putfield 31, 3) := by decide +kernel
theorem d71m1_60 : decode prog_71_method_1_code 60 = .ok (.aload_n 0, 1) := by decide +kernel
theorem d71m1_61 : decode prog_71_method_1_code 61 = .ok (.bipush 16, 2) := by decide +kernel
theorem d71m1_63 : decode prog_71_method_1_code 63 = .ok (.iload_n 1, 1) := by decide +kernel
theorem d71m1_64 : decode prog_71_method_1_code 64 = .ok (.imul, 1) := by decide +kernel
theorem d71m1_65 : decode prog_71_method_1_code 65 = .ok (.newarray .long, 2) := by decide +kernel
theorem d71m1_67 : decode prog_71_method_1_code 67 = .ok (.putfield 35, 3) := by decide +kernel
theorem d71m1_70 : decode prog_71_method_1_code 70 = .ok (.return_, 1) := by decide +kernel
theorem ef_ini1 (m : MethodId) (x0 : Addr) (x1 : Int32) : entryFrame m #[(.ref x0), (.int x1)] 2 = mkF m 0 #[.val (.ref x0), .val (.int x1)] [] := by first | (simp [entryFrame, mkF, argsToLocals, Value.category]; done) | rfl
def Q_ini1 (Z : State) (a : Addr) (h0 : Heap) (n0 : Nat) (F : List (Addr × OObj)) (v : Option Value) (h : Heap) (L : List Loc) : Prop := v = none ∧ Fr n0 L ∧ ∃ ap as aq ax ak ag ab : Addr, OView Z n0 h (oP a [(.ref ap), (.ref as), (.ref aq), (.ref ax), (.ref ak), (.int (1 : Int32)), (.ref ag), (.ref ab), (.int (0 : Int32))] :: oA ap (List.replicate 16 (0 : Int32)) :: oA as (List.replicate 16 (0 : Int32)) :: oN aq :: oA ax (List.replicate 16 (0 : Int32)) :: oA ak (List.replicate 16 (0 : Int32)) :: oB ag (List.replicate 16 (0 : Int64)) :: oB ab (List.replicate 16 (0 : Int64)) :: F) ∧ Old Z n0 h
set_option maxRecDepth 65536 in
set_option maxHeartbeats 40000000 in
theorem rm_ini1 (l : Launch) (Z : State) (a0 : Array Value) (hw : ∀ d ∈ tables_1, d.before a0 Z = true) (ws : List Jvm.Cond) (a : Addr) (h0 : Heap) (n0 : Nat) (F : List (Addr × OObj)) (Z0 : n0 ≤ h0.size) (V0 : OView Z n0 h0 (oP a [.null, .null, .null, .null, .null, (.int (0 : Int32)), .null, .null, (.int (0 : Int32))] :: F)) (O0 : Old Z n0 h0) :
    MetFree l (⟨"com/example/inya/inya/SearchPath", "<init>", "(I)V"⟩ : MethodName) (head1 (Jvm.Cond.code (⟨"com/example/inya/inya/SearchPath", "<init>", "(I)V"⟩ : MethodName) prog_71_method_1_code 2 none :: ws) ({ frames := 1, cells := 7, slots := 112, locals := 12 } : Room)) (fun a_ U => a_ = #[(.ref a), (.int (1 : Int32))] ∧ Z.Warmed39 U.vm ∧ U.heap = h0) (fun _ _ _ _ _ => True) (fun _ U o U' => ∃ v L, o = .returned v ∧ Q_ini1 Z a h0 n0 F v U'.heap L ∧ FrameEnd U o U' L ({ frames := 1, cells := 7, slots := 112, locals := 12 } : Room).cells ({ frames := 1, cells := 7, slots := 112, locals := 12 } : Room).slots) := by
  refine MetFree.of_bodySF (plainFor_of_name pn_0) hisR ?_
  intro p e s m args below meth c s₁ Bd hml0 hP hK
  obtain ⟨rfl, hZ, hh⟩ := hP
  have hx := Bd.exec
  have hby := Bd.bytes
  have hlk : meth.locks = false := Bd.notSynchronized
  have hml : c.maxLocals = 2 := hml0
  have hown : s.vm.findClass "com/example/inya/inya/SearchPath" = some m.cls := findClass_of_methodNamed Bd.named
  have hnm := (name_of_methodNamed Bd.named Bd.method).1
  have X0 : Stand p l e ({ frames := 1, cells := 7, slots := 112, locals := 12 } : Room) s m #[(.ref a), (.int (1 : Int32))] below meth c s₁ [] 0 0 := Stand.of_body Bd
  have e0 : s₁.heap = h0 := by rw [← hh, Bd.state]; rfl
  have N0 := Fr.nil n0
  show OGets p e below (OLeaves s (Q_ini1 Z a h0 n0 F ) ({ frames := 1, cells := 7, slots := 112, locals := 12 } : Room).cells ({ frames := 1, cells := 7, slots := 112, locals := 12 } : Room).slots) _
  refine OGets.enter (ef_ini1 m a (1 : Int32)) ?_
  show OGets p e below _ (s₁.setTop (mkF m 0 #[rv a, iv (1 : Int32)] []))
  refine OGets.step (fun _ => XS.aloadN X0.here hx rfl (hb hby d71m1_0) rfl rfl) ?_
  obtain ⟨T1, X1, e1, st1⟩ := initO X0 hx hZ hown (ow hw 7 rfl) (ow hw 8 rfl) (ow hw 9 rfl) e0 (g := (mkF m 1 #[rv a, iv (1 : Int32)] [(.ref a)])) rfl (by rw [hml]; rfl) rfl (hb hby d71m1_1) (by decide) (W := 0) (by show 2 * 0 + _ ≤ _; exact Nat.le_of_eq rfl) (by decide)
  refine OGets.step st1 ?_
  refine OGets.step (fun _ => XS.aloadN X1.here hx rfl (hb hby d71m1_4) rfl rfl) ?_
  refine OGets.step (fun _ => XS.bipush X1.here hx rfl (hb hby d71m1_5)) ?_
  obtain ⟨T2, h2, k2, X2, e2, E2, A2, st2⟩ := newP X1 hx hZ (ow hw 10 rfl) e1 (g := (mkF m 7 #[rv a, iv (1 : Int32)] [(.int (16 : Int32)), (.ref a)])) rfl (hb hby d71m1_7) rfl (by decide) (cap := 16) (by decide) (by decide) (by decide) (by decide)
  have V2' := V0.newArr Z0 E2 A2 16 rfl
  have Z2 : n0 ≤ h2.size := Nat.le_trans Z0 E2.1
  obtain ⟨b2, g2⟩ : ∃ z, z = h0.size := ⟨_, rfl⟩
  rw [← g2] at V2' st2
  have V2 : OView Z n0 h2 (oA b2 (List.replicate 16 (0 : Int32)) :: oP a [.null, .null, .null, .null, .null, (.int (0 : Int32)), .null, .null, (.int (0 : Int32))] :: F) := V2'
  have O2 := O0.ext E2
  refine OGets.step st2 ?_
  obtain ⟨T3, h3, X3, e3, W3, st3⟩ := putF X2 hx hZ hown (host := "") (Or.inl (ow hw 11 rfl)) Via.refl e2 (V2.fld 1 rfl 0 rfl rfl) (V2.exa 1 rfl) (Or.inl (ow hw 12 rfl)) (ow hw 2 rfl) (ty := (.array .int)) (by decide) rfl rfl (g := (mkF m 9 #[rv a, iv (1 : Int32)] [(.ref b2), (.ref a)])) rfl rfl (hb hby d71m1_9)
  have V3 : OView Z n0 h3 (oA b2 (List.replicate 16 (0 : Int32)) :: oP a [(.ref b2), .null, .null, .null, .null, (.int (0 : Int32)), .null, .null, (.int (0 : Int32))] :: F) := V2.putF 1 rfl 0 rfl W3
  have N3 := Fr.snoc X3 N0 (V2.old 1 rfl)
  have Z3 : n0 ≤ h3.size := by rw [W3.size]; exact Z2
  have O3 := O2.wr W3 (V2.old 1 rfl)
  refine OGets.step st3 ?_
  refine OGets.step (fun _ => XS.aloadN X3.here hx rfl (hb hby d71m1_12) rfl rfl) ?_
  refine OGets.step (fun _ => XS.bipush X3.here hx rfl (hb hby d71m1_13)) ?_
  obtain ⟨T4, h4, k4, X4, e4, E4, A4, st4⟩ := newP X3 hx hZ (ow hw 10 rfl) e3 (g := (mkF m 15 #[rv a, iv (1 : Int32)] [(.int (16 : Int32)), (.ref a)])) rfl (hb hby d71m1_15) rfl (by decide) (cap := 16) (by decide) (by decide) (by decide) (by decide)
  have V4' := V3.newArr Z3 E4 A4 16 rfl
  have Z4 : n0 ≤ h4.size := Nat.le_trans Z3 E4.1
  obtain ⟨b4, g4⟩ : ∃ z, z = h3.size := ⟨_, rfl⟩
  rw [← g4] at V4' st4
  have V4 : OView Z n0 h4 (oA b4 (List.replicate 16 (0 : Int32)) :: oA b2 (List.replicate 16 (0 : Int32)) :: oP a [(.ref b2), .null, .null, .null, .null, (.int (0 : Int32)), .null, .null, (.int (0 : Int32))] :: F) := V4'
  have O4 := O3.ext E4
  refine OGets.step st4 ?_
  obtain ⟨T5, h5, X5, e5, W5, st5⟩ := putF X4 hx hZ hown (host := "") (Or.inl (ow hw 13 rfl)) Via.refl e4 (V4.fld 2 rfl 1 rfl rfl) (V4.exa 2 rfl) (Or.inl (ow hw 14 rfl)) (ow hw 2 rfl) (ty := (.array .int)) (by decide) rfl rfl (g := (mkF m 17 #[rv a, iv (1 : Int32)] [(.ref b4), (.ref a)])) rfl rfl (hb hby d71m1_17)
  have V5 : OView Z n0 h5 (oA b4 (List.replicate 16 (0 : Int32)) :: oA b2 (List.replicate 16 (0 : Int32)) :: oP a [(.ref b2), (.ref b4), .null, .null, .null, (.int (0 : Int32)), .null, .null, (.int (0 : Int32))] :: F) := V4.putF 2 rfl 1 rfl W5
  have N5 := Fr.snoc X5 N3 (V4.old 2 rfl)
  have Z5 : n0 ≤ h5.size := by rw [W5.size]; exact Z4
  have O5 := O4.wr W5 (V4.old 2 rfl)
  refine OGets.step st5 ?_
  refine OGets.step (fun _ => XS.aloadN X5.here hx rfl (hb hby d71m1_20) rfl rfl) ?_
  refine OGets.step (fun _ => XS.bipush X5.here hx rfl (hb hby d71m1_21)) ?_
  obtain ⟨T6, h6, k6, X6, e6, E6, A6, Ex6, Ov6, st6⟩ := newRA X5 hx hZ hown (ty := .int) (by decide +kernel) (ow hw 15 rfl) (ow hw 16 rfl) e5 (g := (mkF m 23 #[rv a, iv (1 : Int32)] [(.int (16 : Int32)), (.ref a)])) rfl (hb hby d71m1_23) rfl (by decide) (cap := 16) (by decide) (by decide) (by decide) (by decide) (ad := "[[I") (by decide +kernel)
  have V6' := V5.newArr Z5 E6 A6 16 rfl
  have Z6 : n0 ≤ h6.size := Nat.le_trans Z5 E6.1
  obtain ⟨b6, g6⟩ : ∃ z, z = h5.size := ⟨_, rfl⟩
  rw [← g6] at V6' st6
  have V6 : OView Z n0 h6 (oN b6 :: oA b4 (List.replicate 16 (0 : Int32)) :: oA b2 (List.replicate 16 (0 : Int32)) :: oP a [(.ref b2), (.ref b4), .null, .null, .null, (.int (0 : Int32)), .null, .null, (.int (0 : Int32))] :: F) := V6'
  have O6 := O5.ext E6
  refine OGets.step st6 ?_
  obtain ⟨T7, h7, X7, e7, W7, st7⟩ := putF X6 hx hZ hown (host := "") (Or.inl (ow hw 17 rfl)) Via.refl e6 (V6.fld 3 rfl 2 rfl rfl) (V6.exa 3 rfl) (Or.inl (ow hw 18 rfl)) (ow hw 2 rfl) (ty := (.array (.array .int))) (by decide) rfl rfl (g := (mkF m 26 #[rv a, iv (1 : Int32)] [(.ref b6), (.ref a)])) rfl rfl (hb hby d71m1_26)
  have V7 : OView Z n0 h7 (oN b6 :: oA b4 (List.replicate 16 (0 : Int32)) :: oA b2 (List.replicate 16 (0 : Int32)) :: oP a [(.ref b2), (.ref b4), (.ref b6), .null, .null, (.int (0 : Int32)), .null, .null, (.int (0 : Int32))] :: F) := V6.putF 3 rfl 2 rfl W7
  have N7 := Fr.snoc X7 N5 (V6.old 3 rfl)
  have Z7 : n0 ≤ h7.size := by rw [W7.size]; exact Z6
  have O7 := O6.wr W7 (V6.old 3 rfl)
  refine OGets.step st7 ?_
  refine OGets.step (fun _ => XS.aloadN X7.here hx rfl (hb hby d71m1_29) rfl rfl) ?_
  refine OGets.step (fun _ => XS.bipush X7.here hx rfl (hb hby d71m1_30)) ?_
  obtain ⟨T8, h8, k8, X8, e8, E8, A8, st8⟩ := newP X7 hx hZ (ow hw 10 rfl) e7 (g := (mkF m 32 #[rv a, iv (1 : Int32)] [(.int (16 : Int32)), (.ref a)])) rfl (hb hby d71m1_32) rfl (by decide) (cap := 16) (by decide) (by decide) (by decide) (by decide)
  have V8' := V7.newArr Z7 E8 A8 16 rfl
  have Z8 : n0 ≤ h8.size := Nat.le_trans Z7 E8.1
  obtain ⟨b8, g8⟩ : ∃ z, z = h7.size := ⟨_, rfl⟩
  rw [← g8] at V8' st8
  have V8 : OView Z n0 h8 (oA b8 (List.replicate 16 (0 : Int32)) :: oN b6 :: oA b4 (List.replicate 16 (0 : Int32)) :: oA b2 (List.replicate 16 (0 : Int32)) :: oP a [(.ref b2), (.ref b4), (.ref b6), .null, .null, (.int (0 : Int32)), .null, .null, (.int (0 : Int32))] :: F) := V8'
  have O8 := O7.ext E8
  refine OGets.step st8 ?_
  obtain ⟨T9, h9, X9, e9, W9, st9⟩ := putF X8 hx hZ hown (host := "") (Or.inl (ow hw 19 rfl)) Via.refl e8 (V8.fld 4 rfl 3 rfl rfl) (V8.exa 4 rfl) (Or.inl (ow hw 20 rfl)) (ow hw 2 rfl) (ty := (.array .int)) (by decide) rfl rfl (g := (mkF m 34 #[rv a, iv (1 : Int32)] [(.ref b8), (.ref a)])) rfl rfl (hb hby d71m1_34)
  have V9 : OView Z n0 h9 (oA b8 (List.replicate 16 (0 : Int32)) :: oN b6 :: oA b4 (List.replicate 16 (0 : Int32)) :: oA b2 (List.replicate 16 (0 : Int32)) :: oP a [(.ref b2), (.ref b4), (.ref b6), (.ref b8), .null, (.int (0 : Int32)), .null, .null, (.int (0 : Int32))] :: F) := V8.putF 4 rfl 3 rfl W9
  have N9 := Fr.snoc X9 N7 (V8.old 4 rfl)
  have Z9 : n0 ≤ h9.size := by rw [W9.size]; exact Z8
  have O9 := O8.wr W9 (V8.old 4 rfl)
  refine OGets.step st9 ?_
  refine OGets.step (fun _ => XS.aloadN X9.here hx rfl (hb hby d71m1_37) rfl rfl) ?_
  refine OGets.step (fun _ => XS.bipush X9.here hx rfl (hb hby d71m1_38)) ?_
  obtain ⟨T10, h10, k10, X10, e10, E10, A10, st10⟩ := newP X9 hx hZ (ow hw 10 rfl) e9 (g := (mkF m 40 #[rv a, iv (1 : Int32)] [(.int (16 : Int32)), (.ref a)])) rfl (hb hby d71m1_40) rfl (by decide) (cap := 16) (by decide) (by decide) (by decide) (by decide)
  have V10' := V9.newArr Z9 E10 A10 16 rfl
  have Z10 : n0 ≤ h10.size := Nat.le_trans Z9 E10.1
  obtain ⟨b10, g10⟩ : ∃ z, z = h9.size := ⟨_, rfl⟩
  rw [← g10] at V10' st10
  have V10 : OView Z n0 h10 (oA b10 (List.replicate 16 (0 : Int32)) :: oA b8 (List.replicate 16 (0 : Int32)) :: oN b6 :: oA b4 (List.replicate 16 (0 : Int32)) :: oA b2 (List.replicate 16 (0 : Int32)) :: oP a [(.ref b2), (.ref b4), (.ref b6), (.ref b8), .null, (.int (0 : Int32)), .null, .null, (.int (0 : Int32))] :: F) := V10'
  have O10 := O9.ext E10
  refine OGets.step st10 ?_
  obtain ⟨T11, h11, X11, e11, W11, st11⟩ := putF X10 hx hZ hown (host := "") (Or.inl (ow hw 21 rfl)) Via.refl e10 (V10.fld 5 rfl 4 rfl rfl) (V10.exa 5 rfl) (Or.inl (ow hw 22 rfl)) (ow hw 2 rfl) (ty := (.array .int)) (by decide) rfl rfl (g := (mkF m 42 #[rv a, iv (1 : Int32)] [(.ref b10), (.ref a)])) rfl rfl (hb hby d71m1_42)
  have V11 : OView Z n0 h11 (oA b10 (List.replicate 16 (0 : Int32)) :: oA b8 (List.replicate 16 (0 : Int32)) :: oN b6 :: oA b4 (List.replicate 16 (0 : Int32)) :: oA b2 (List.replicate 16 (0 : Int32)) :: oP a [(.ref b2), (.ref b4), (.ref b6), (.ref b8), (.ref b10), (.int (0 : Int32)), .null, .null, (.int (0 : Int32))] :: F) := V10.putF 5 rfl 4 rfl W11
  have N11 := Fr.snoc X11 N9 (V10.old 5 rfl)
  have Z11 : n0 ≤ h11.size := by rw [W11.size]; exact Z10
  have O11 := O10.wr W11 (V10.old 5 rfl)
  refine OGets.step st11 ?_
  refine OGets.step (fun _ => XS.aloadN X11.here hx rfl (hb hby d71m1_45) rfl rfl) ?_
  refine OGets.step (fun _ => XS.iloadN X11.here hx rfl (hb hby d71m1_46) rfl) ?_
  obtain ⟨T12, h12, X12, e12, W12, st12⟩ := putF X11 hx hZ hown (host := "") (Or.inl (ow hw 23 rfl)) Via.refl e11 (V11.fld 5 rfl 5 rfl rfl) (V11.exa 5 rfl) (Or.inr ⟨(ow hw 24 rfl), rfl, hnm⟩) (ow hw 2 rfl) (ty := .int) (by decide) rfl rfl (g := (mkF m 47 #[rv a, iv (1 : Int32)] [(.int (1 : Int32)), (.ref a)])) rfl rfl (hb hby d71m1_47)
  have V12 : OView Z n0 h12 (oA b10 (List.replicate 16 (0 : Int32)) :: oA b8 (List.replicate 16 (0 : Int32)) :: oN b6 :: oA b4 (List.replicate 16 (0 : Int32)) :: oA b2 (List.replicate 16 (0 : Int32)) :: oP a [(.ref b2), (.ref b4), (.ref b6), (.ref b8), (.ref b10), (.int (1 : Int32)), .null, .null, (.int (0 : Int32))] :: F) := V11.putF 5 rfl 5 rfl W12
  have N12 := Fr.snoc X12 N11 (V11.old 5 rfl)
  have Z12 : n0 ≤ h12.size := by rw [W12.size]; exact Z11
  have O12 := O11.wr W12 (V11.old 5 rfl)
  refine OGets.step st12 ?_
  refine OGets.step (fun _ => XS.aloadN X12.here hx rfl (hb hby d71m1_50) rfl rfl) ?_
  refine OGets.step (fun _ => XS.bipush X12.here hx rfl (hb hby d71m1_51)) ?_
  refine OGets.step (fun _ => XS.iloadN X12.here hx rfl (hb hby d71m1_53) rfl) ?_
  refine OGets.step (fun _ => XS.imul X12.here hx rfl (hb hby d71m1_54) rfl) ?_
  show OGets p e below _ (T12.setTop (mkF m 55 #[rv a, iv (1 : Int32)] [(.int (16 : Int32)), (.ref a)]))
  obtain ⟨T13, h13, k13, X13, e13, E13, A13, Ex13, st13⟩ := newPE X12 hx hZ (ow hw 0 rfl) e12 (g := (mkF m 55 #[rv a, iv (1 : Int32)] [(.int (16 : Int32)), (.ref a)])) rfl (hb hby d71m1_55) rfl (by decide) (cap := 16) (by decide) (by decide) (by decide) (by decide) (ad := "[J") (by decide +kernel)
  have V13' := V12.newArr Z12 E13 A13 16 rfl (fun _ => Ex13)
  have Z13 : n0 ≤ h13.size := Nat.le_trans Z12 E13.1
  obtain ⟨b13, g13⟩ : ∃ z, z = h12.size := ⟨_, rfl⟩
  rw [← g13] at V13' st13
  have V13 : OView Z n0 h13 (oB b13 (List.replicate 16 (0 : Int64)) :: oA b10 (List.replicate 16 (0 : Int32)) :: oA b8 (List.replicate 16 (0 : Int32)) :: oN b6 :: oA b4 (List.replicate 16 (0 : Int32)) :: oA b2 (List.replicate 16 (0 : Int32)) :: oP a [(.ref b2), (.ref b4), (.ref b6), (.ref b8), (.ref b10), (.int (1 : Int32)), .null, .null, (.int (0 : Int32))] :: F) := V13'
  have O13 := O12.ext E13
  refine OGets.step st13 ?_
  obtain ⟨T14, h14, X14, e14, W14, st14⟩ := putF X13 hx hZ hown (host := "") (Or.inl (ow hw 25 rfl)) Via.refl e13 (V13.fld 6 rfl 6 rfl rfl) (V13.exa 6 rfl) (Or.inl (ow hw 26 rfl)) (ow hw 2 rfl) (ty := (.array .long)) (by decide) rfl rfl (g := (mkF m 57 #[rv a, iv (1 : Int32)] [(.ref b13), (.ref a)])) rfl rfl (hb hby d71m1_57)
  have V14 : OView Z n0 h14 (oB b13 (List.replicate 16 (0 : Int64)) :: oA b10 (List.replicate 16 (0 : Int32)) :: oA b8 (List.replicate 16 (0 : Int32)) :: oN b6 :: oA b4 (List.replicate 16 (0 : Int32)) :: oA b2 (List.replicate 16 (0 : Int32)) :: oP a [(.ref b2), (.ref b4), (.ref b6), (.ref b8), (.ref b10), (.int (1 : Int32)), (.ref b13), .null, (.int (0 : Int32))] :: F) := V13.putF 6 rfl 6 rfl W14
  have N14 := Fr.snoc X14 N12 (V13.old 6 rfl)
  have Z14 : n0 ≤ h14.size := by rw [W14.size]; exact Z13
  have O14 := O13.wr W14 (V13.old 6 rfl)
  refine OGets.step st14 ?_
  refine OGets.step (fun _ => XS.aloadN X14.here hx rfl (hb hby d71m1_60) rfl rfl) ?_
  refine OGets.step (fun _ => XS.bipush X14.here hx rfl (hb hby d71m1_61)) ?_
  refine OGets.step (fun _ => XS.iloadN X14.here hx rfl (hb hby d71m1_63) rfl) ?_
  refine OGets.step (fun _ => XS.imul X14.here hx rfl (hb hby d71m1_64) rfl) ?_
  show OGets p e below _ (T14.setTop (mkF m 65 #[rv a, iv (1 : Int32)] [(.int (16 : Int32)), (.ref a)]))
  obtain ⟨T15, h15, k15, X15, e15, E15, A15, Ex15, st15⟩ := newPE X14 hx hZ (ow hw 0 rfl) e14 (g := (mkF m 65 #[rv a, iv (1 : Int32)] [(.int (16 : Int32)), (.ref a)])) rfl (hb hby d71m1_65) rfl (by decide) (cap := 16) (by decide) (by decide) (by decide) (by decide) (ad := "[J") (by decide +kernel)
  have V15' := V14.newArr Z14 E15 A15 16 rfl (fun _ => Ex15)
  have Z15 : n0 ≤ h15.size := Nat.le_trans Z14 E15.1
  obtain ⟨b15, g15⟩ : ∃ z, z = h14.size := ⟨_, rfl⟩
  rw [← g15] at V15' st15
  have V15 : OView Z n0 h15 (oB b15 (List.replicate 16 (0 : Int64)) :: oB b13 (List.replicate 16 (0 : Int64)) :: oA b10 (List.replicate 16 (0 : Int32)) :: oA b8 (List.replicate 16 (0 : Int32)) :: oN b6 :: oA b4 (List.replicate 16 (0 : Int32)) :: oA b2 (List.replicate 16 (0 : Int32)) :: oP a [(.ref b2), (.ref b4), (.ref b6), (.ref b8), (.ref b10), (.int (1 : Int32)), (.ref b13), .null, (.int (0 : Int32))] :: F) := V15'
  have O15 := O14.ext E15
  refine OGets.step st15 ?_
  obtain ⟨T16, h16, X16, e16, W16, st16⟩ := putF X15 hx hZ hown (host := "") (Or.inl (ow hw 27 rfl)) Via.refl e15 (V15.fld 7 rfl 7 rfl rfl) (V15.exa 7 rfl) (Or.inl (ow hw 28 rfl)) (ow hw 2 rfl) (ty := (.array .long)) (by decide) rfl rfl (g := (mkF m 67 #[rv a, iv (1 : Int32)] [(.ref b15), (.ref a)])) rfl rfl (hb hby d71m1_67)
  have V16 : OView Z n0 h16 (oB b15 (List.replicate 16 (0 : Int64)) :: oB b13 (List.replicate 16 (0 : Int64)) :: oA b10 (List.replicate 16 (0 : Int32)) :: oA b8 (List.replicate 16 (0 : Int32)) :: oN b6 :: oA b4 (List.replicate 16 (0 : Int32)) :: oA b2 (List.replicate 16 (0 : Int32)) :: oP a [(.ref b2), (.ref b4), (.ref b6), (.ref b8), (.ref b10), (.int (1 : Int32)), (.ref b13), (.ref b15), (.int (0 : Int32))] :: F) := V15.putF 7 rfl 7 rfl W16
  have N16 := Fr.snoc X16 N14 (V15.old 7 rfl)
  have Z16 : n0 ≤ h16.size := by rw [W16.size]; exact Z15
  have O16 := O15.wr W16 (V15.old 7 rfl)
  refine OGets.step st16 ?_
  refine OGets.retV X16 hx hlk Bd.returns (hb hby d71m1_70) (Nat.le_of_ble_eq_true rfl) (Nat.le_of_ble_eq_true rfl) ?_
  have Vp17 : OView Z _ h16 (oP a [(.ref b2), (.ref b4), (.ref b6), (.ref b8), (.ref b10), (.int (1 : Int32)), (.ref b13), (.ref b15), (.int (0 : Int32))] :: oA b2 (List.replicate 16 (0 : Int32)) :: oA b4 (List.replicate 16 (0 : Int32)) :: oN b6 :: oA b8 (List.replicate 16 (0 : Int32)) :: oA b10 (List.replicate 16 (0 : Int32)) :: oB b13 (List.replicate 16 (0 : Int64)) :: oB b15 (List.replicate 16 (0 : Int64)) :: F) := (((((((V16.bring 1 rfl).bring 2 rfl).bring 3 rfl).bring 4 rfl).bring 5 rfl).bring 6 rfl).bring 7 rfl)
  rw [e16]
  exact ⟨rfl, N16, b2, b4, b6, b8, b10, b13, b15, Vp17, O16⟩
theorem ef_ini2 (m : MethodId) (x0 : Addr) (x1 : Int32) : entryFrame m #[(.ref x0), (.int x1)] 2 = mkF m 0 #[.val (.ref x0), .val (.int x1)] [] := by first | (simp [entryFrame, mkF, argsToLocals, Value.category]; done) | rfl
def Q_ini2 (Z : State) (a : Addr) (h0 : Heap) (n0 : Nat) (F : List (Addr × OObj)) (v : Option Value) (h : Heap) (L : List Loc) : Prop := v = none ∧ Fr n0 L ∧ ∃ ap as aq ax ak ag ab : Addr, OView Z n0 h (oP a [(.ref ap), (.ref as), (.ref aq), (.ref ax), (.ref ak), (.int (2 : Int32)), (.ref ag), (.ref ab), (.int (0 : Int32))] :: oA ap (List.replicate 16 (0 : Int32)) :: oA as (List.replicate 16 (0 : Int32)) :: oN aq :: oA ax (List.replicate 16 (0 : Int32)) :: oA ak (List.replicate 16 (0 : Int32)) :: oB ag (List.replicate 32 (0 : Int64)) :: oB ab (List.replicate 32 (0 : Int64)) :: F) ∧ Old Z n0 h
set_option maxRecDepth 65536 in
set_option maxHeartbeats 40000000 in
theorem rm_ini2 (l : Launch) (Z : State) (a0 : Array Value) (hw : ∀ d ∈ tables_1, d.before a0 Z = true) (ws : List Jvm.Cond) (a : Addr) (h0 : Heap) (n0 : Nat) (F : List (Addr × OObj)) (Z0 : n0 ≤ h0.size) (V0 : OView Z n0 h0 (oP a [.null, .null, .null, .null, .null, (.int (0 : Int32)), .null, .null, (.int (0 : Int32))] :: F)) (O0 : Old Z n0 h0) :
    MetFree l (⟨"com/example/inya/inya/SearchPath", "<init>", "(I)V"⟩ : MethodName) (head1 (Jvm.Cond.code (⟨"com/example/inya/inya/SearchPath", "<init>", "(I)V"⟩ : MethodName) prog_71_method_1_code 2 none :: ws) ({ frames := 1, cells := 7, slots := 144, locals := 12 } : Room)) (fun a_ U => a_ = #[(.ref a), (.int (2 : Int32))] ∧ Z.Warmed39 U.vm ∧ U.heap = h0) (fun _ _ _ _ _ => True) (fun _ U o U' => ∃ v L, o = .returned v ∧ Q_ini2 Z a h0 n0 F v U'.heap L ∧ FrameEnd U o U' L ({ frames := 1, cells := 7, slots := 144, locals := 12 } : Room).cells ({ frames := 1, cells := 7, slots := 144, locals := 12 } : Room).slots) := by
  refine MetFree.of_bodySF (plainFor_of_name pn_0) hisR ?_
  intro p e s m args below meth c s₁ Bd hml0 hP hK
  obtain ⟨rfl, hZ, hh⟩ := hP
  have hx := Bd.exec
  have hby := Bd.bytes
  have hlk : meth.locks = false := Bd.notSynchronized
  have hml : c.maxLocals = 2 := hml0
  have hown : s.vm.findClass "com/example/inya/inya/SearchPath" = some m.cls := findClass_of_methodNamed Bd.named
  have hnm := (name_of_methodNamed Bd.named Bd.method).1
  have X0 : Stand p l e ({ frames := 1, cells := 7, slots := 144, locals := 12 } : Room) s m #[(.ref a), (.int (2 : Int32))] below meth c s₁ [] 0 0 := Stand.of_body Bd
  have e0 : s₁.heap = h0 := by rw [← hh, Bd.state]; rfl
  have N0 := Fr.nil n0
  show OGets p e below (OLeaves s (Q_ini2 Z a h0 n0 F ) ({ frames := 1, cells := 7, slots := 144, locals := 12 } : Room).cells ({ frames := 1, cells := 7, slots := 144, locals := 12 } : Room).slots) _
  refine OGets.enter (ef_ini2 m a (2 : Int32)) ?_
  show OGets p e below _ (s₁.setTop (mkF m 0 #[rv a, iv (2 : Int32)] []))
  refine OGets.step (fun _ => XS.aloadN X0.here hx rfl (hb hby d71m1_0) rfl rfl) ?_
  obtain ⟨T18, X18, e18, st18⟩ := initO X0 hx hZ hown (ow hw 7 rfl) (ow hw 8 rfl) (ow hw 9 rfl) e0 (g := (mkF m 1 #[rv a, iv (2 : Int32)] [(.ref a)])) rfl (by rw [hml]; rfl) rfl (hb hby d71m1_1) (by decide) (W := 0) (by show 2 * 0 + _ ≤ _; exact Nat.le_of_eq rfl) (by decide)
  refine OGets.step st18 ?_
  refine OGets.step (fun _ => XS.aloadN X18.here hx rfl (hb hby d71m1_4) rfl rfl) ?_
  refine OGets.step (fun _ => XS.bipush X18.here hx rfl (hb hby d71m1_5)) ?_
  obtain ⟨T19, h19, k19, X19, e19, E19, A19, st19⟩ := newP X18 hx hZ (ow hw 10 rfl) e18 (g := (mkF m 7 #[rv a, iv (2 : Int32)] [(.int (16 : Int32)), (.ref a)])) rfl (hb hby d71m1_7) rfl (by decide) (cap := 16) (by decide) (by decide) (by decide) (by decide)
  have V19' := V0.newArr Z0 E19 A19 16 rfl
  have Z19 : n0 ≤ h19.size := Nat.le_trans Z0 E19.1
  obtain ⟨b19, g19⟩ : ∃ z, z = h0.size := ⟨_, rfl⟩
  rw [← g19] at V19' st19
  have V19 : OView Z n0 h19 (oA b19 (List.replicate 16 (0 : Int32)) :: oP a [.null, .null, .null, .null, .null, (.int (0 : Int32)), .null, .null, (.int (0 : Int32))] :: F) := V19'
  have O19 := O0.ext E19
  refine OGets.step st19 ?_
  obtain ⟨T20, h20, X20, e20, W20, st20⟩ := putF X19 hx hZ hown (host := "") (Or.inl (ow hw 11 rfl)) Via.refl e19 (V19.fld 1 rfl 0 rfl rfl) (V19.exa 1 rfl) (Or.inl (ow hw 12 rfl)) (ow hw 2 rfl) (ty := (.array .int)) (by decide) rfl rfl (g := (mkF m 9 #[rv a, iv (2 : Int32)] [(.ref b19), (.ref a)])) rfl rfl (hb hby d71m1_9)
  have V20 : OView Z n0 h20 (oA b19 (List.replicate 16 (0 : Int32)) :: oP a [(.ref b19), .null, .null, .null, .null, (.int (0 : Int32)), .null, .null, (.int (0 : Int32))] :: F) := V19.putF 1 rfl 0 rfl W20
  have N20 := Fr.snoc X20 N0 (V19.old 1 rfl)
  have Z20 : n0 ≤ h20.size := by rw [W20.size]; exact Z19
  have O20 := O19.wr W20 (V19.old 1 rfl)
  refine OGets.step st20 ?_
  refine OGets.step (fun _ => XS.aloadN X20.here hx rfl (hb hby d71m1_12) rfl rfl) ?_
  refine OGets.step (fun _ => XS.bipush X20.here hx rfl (hb hby d71m1_13)) ?_
  obtain ⟨T21, h21, k21, X21, e21, E21, A21, st21⟩ := newP X20 hx hZ (ow hw 10 rfl) e20 (g := (mkF m 15 #[rv a, iv (2 : Int32)] [(.int (16 : Int32)), (.ref a)])) rfl (hb hby d71m1_15) rfl (by decide) (cap := 16) (by decide) (by decide) (by decide) (by decide)
  have V21' := V20.newArr Z20 E21 A21 16 rfl
  have Z21 : n0 ≤ h21.size := Nat.le_trans Z20 E21.1
  obtain ⟨b21, g21⟩ : ∃ z, z = h20.size := ⟨_, rfl⟩
  rw [← g21] at V21' st21
  have V21 : OView Z n0 h21 (oA b21 (List.replicate 16 (0 : Int32)) :: oA b19 (List.replicate 16 (0 : Int32)) :: oP a [(.ref b19), .null, .null, .null, .null, (.int (0 : Int32)), .null, .null, (.int (0 : Int32))] :: F) := V21'
  have O21 := O20.ext E21
  refine OGets.step st21 ?_
  obtain ⟨T22, h22, X22, e22, W22, st22⟩ := putF X21 hx hZ hown (host := "") (Or.inl (ow hw 13 rfl)) Via.refl e21 (V21.fld 2 rfl 1 rfl rfl) (V21.exa 2 rfl) (Or.inl (ow hw 14 rfl)) (ow hw 2 rfl) (ty := (.array .int)) (by decide) rfl rfl (g := (mkF m 17 #[rv a, iv (2 : Int32)] [(.ref b21), (.ref a)])) rfl rfl (hb hby d71m1_17)
  have V22 : OView Z n0 h22 (oA b21 (List.replicate 16 (0 : Int32)) :: oA b19 (List.replicate 16 (0 : Int32)) :: oP a [(.ref b19), (.ref b21), .null, .null, .null, (.int (0 : Int32)), .null, .null, (.int (0 : Int32))] :: F) := V21.putF 2 rfl 1 rfl W22
  have N22 := Fr.snoc X22 N20 (V21.old 2 rfl)
  have Z22 : n0 ≤ h22.size := by rw [W22.size]; exact Z21
  have O22 := O21.wr W22 (V21.old 2 rfl)
  refine OGets.step st22 ?_
  refine OGets.step (fun _ => XS.aloadN X22.here hx rfl (hb hby d71m1_20) rfl rfl) ?_
  refine OGets.step (fun _ => XS.bipush X22.here hx rfl (hb hby d71m1_21)) ?_
  obtain ⟨T23, h23, k23, X23, e23, E23, A23, Ex23, Ov23, st23⟩ := newRA X22 hx hZ hown (ty := .int) (by decide +kernel) (ow hw 15 rfl) (ow hw 16 rfl) e22 (g := (mkF m 23 #[rv a, iv (2 : Int32)] [(.int (16 : Int32)), (.ref a)])) rfl (hb hby d71m1_23) rfl (by decide) (cap := 16) (by decide) (by decide) (by decide) (by decide) (ad := "[[I") (by decide +kernel)
  have V23' := V22.newArr Z22 E23 A23 16 rfl
  have Z23 : n0 ≤ h23.size := Nat.le_trans Z22 E23.1
  obtain ⟨b23, g23⟩ : ∃ z, z = h22.size := ⟨_, rfl⟩
  rw [← g23] at V23' st23
  have V23 : OView Z n0 h23 (oN b23 :: oA b21 (List.replicate 16 (0 : Int32)) :: oA b19 (List.replicate 16 (0 : Int32)) :: oP a [(.ref b19), (.ref b21), .null, .null, .null, (.int (0 : Int32)), .null, .null, (.int (0 : Int32))] :: F) := V23'
  have O23 := O22.ext E23
  refine OGets.step st23 ?_
  obtain ⟨T24, h24, X24, e24, W24, st24⟩ := putF X23 hx hZ hown (host := "") (Or.inl (ow hw 17 rfl)) Via.refl e23 (V23.fld 3 rfl 2 rfl rfl) (V23.exa 3 rfl) (Or.inl (ow hw 18 rfl)) (ow hw 2 rfl) (ty := (.array (.array .int))) (by decide) rfl rfl (g := (mkF m 26 #[rv a, iv (2 : Int32)] [(.ref b23), (.ref a)])) rfl rfl (hb hby d71m1_26)
  have V24 : OView Z n0 h24 (oN b23 :: oA b21 (List.replicate 16 (0 : Int32)) :: oA b19 (List.replicate 16 (0 : Int32)) :: oP a [(.ref b19), (.ref b21), (.ref b23), .null, .null, (.int (0 : Int32)), .null, .null, (.int (0 : Int32))] :: F) := V23.putF 3 rfl 2 rfl W24
  have N24 := Fr.snoc X24 N22 (V23.old 3 rfl)
  have Z24 : n0 ≤ h24.size := by rw [W24.size]; exact Z23
  have O24 := O23.wr W24 (V23.old 3 rfl)
  refine OGets.step st24 ?_
  refine OGets.step (fun _ => XS.aloadN X24.here hx rfl (hb hby d71m1_29) rfl rfl) ?_
  refine OGets.step (fun _ => XS.bipush X24.here hx rfl (hb hby d71m1_30)) ?_
  obtain ⟨T25, h25, k25, X25, e25, E25, A25, st25⟩ := newP X24 hx hZ (ow hw 10 rfl) e24 (g := (mkF m 32 #[rv a, iv (2 : Int32)] [(.int (16 : Int32)), (.ref a)])) rfl (hb hby d71m1_32) rfl (by decide) (cap := 16) (by decide) (by decide) (by decide) (by decide)
  have V25' := V24.newArr Z24 E25 A25 16 rfl
  have Z25 : n0 ≤ h25.size := Nat.le_trans Z24 E25.1
  obtain ⟨b25, g25⟩ : ∃ z, z = h24.size := ⟨_, rfl⟩
  rw [← g25] at V25' st25
  have V25 : OView Z n0 h25 (oA b25 (List.replicate 16 (0 : Int32)) :: oN b23 :: oA b21 (List.replicate 16 (0 : Int32)) :: oA b19 (List.replicate 16 (0 : Int32)) :: oP a [(.ref b19), (.ref b21), (.ref b23), .null, .null, (.int (0 : Int32)), .null, .null, (.int (0 : Int32))] :: F) := V25'
  have O25 := O24.ext E25
  refine OGets.step st25 ?_
  obtain ⟨T26, h26, X26, e26, W26, st26⟩ := putF X25 hx hZ hown (host := "") (Or.inl (ow hw 19 rfl)) Via.refl e25 (V25.fld 4 rfl 3 rfl rfl) (V25.exa 4 rfl) (Or.inl (ow hw 20 rfl)) (ow hw 2 rfl) (ty := (.array .int)) (by decide) rfl rfl (g := (mkF m 34 #[rv a, iv (2 : Int32)] [(.ref b25), (.ref a)])) rfl rfl (hb hby d71m1_34)
  have V26 : OView Z n0 h26 (oA b25 (List.replicate 16 (0 : Int32)) :: oN b23 :: oA b21 (List.replicate 16 (0 : Int32)) :: oA b19 (List.replicate 16 (0 : Int32)) :: oP a [(.ref b19), (.ref b21), (.ref b23), (.ref b25), .null, (.int (0 : Int32)), .null, .null, (.int (0 : Int32))] :: F) := V25.putF 4 rfl 3 rfl W26
  have N26 := Fr.snoc X26 N24 (V25.old 4 rfl)
  have Z26 : n0 ≤ h26.size := by rw [W26.size]; exact Z25
  have O26 := O25.wr W26 (V25.old 4 rfl)
  refine OGets.step st26 ?_
  refine OGets.step (fun _ => XS.aloadN X26.here hx rfl (hb hby d71m1_37) rfl rfl) ?_
  refine OGets.step (fun _ => XS.bipush X26.here hx rfl (hb hby d71m1_38)) ?_
  obtain ⟨T27, h27, k27, X27, e27, E27, A27, st27⟩ := newP X26 hx hZ (ow hw 10 rfl) e26 (g := (mkF m 40 #[rv a, iv (2 : Int32)] [(.int (16 : Int32)), (.ref a)])) rfl (hb hby d71m1_40) rfl (by decide) (cap := 16) (by decide) (by decide) (by decide) (by decide)
  have V27' := V26.newArr Z26 E27 A27 16 rfl
  have Z27 : n0 ≤ h27.size := Nat.le_trans Z26 E27.1
  obtain ⟨b27, g27⟩ : ∃ z, z = h26.size := ⟨_, rfl⟩
  rw [← g27] at V27' st27
  have V27 : OView Z n0 h27 (oA b27 (List.replicate 16 (0 : Int32)) :: oA b25 (List.replicate 16 (0 : Int32)) :: oN b23 :: oA b21 (List.replicate 16 (0 : Int32)) :: oA b19 (List.replicate 16 (0 : Int32)) :: oP a [(.ref b19), (.ref b21), (.ref b23), (.ref b25), .null, (.int (0 : Int32)), .null, .null, (.int (0 : Int32))] :: F) := V27'
  have O27 := O26.ext E27
  refine OGets.step st27 ?_
  obtain ⟨T28, h28, X28, e28, W28, st28⟩ := putF X27 hx hZ hown (host := "") (Or.inl (ow hw 21 rfl)) Via.refl e27 (V27.fld 5 rfl 4 rfl rfl) (V27.exa 5 rfl) (Or.inl (ow hw 22 rfl)) (ow hw 2 rfl) (ty := (.array .int)) (by decide) rfl rfl (g := (mkF m 42 #[rv a, iv (2 : Int32)] [(.ref b27), (.ref a)])) rfl rfl (hb hby d71m1_42)
  have V28 : OView Z n0 h28 (oA b27 (List.replicate 16 (0 : Int32)) :: oA b25 (List.replicate 16 (0 : Int32)) :: oN b23 :: oA b21 (List.replicate 16 (0 : Int32)) :: oA b19 (List.replicate 16 (0 : Int32)) :: oP a [(.ref b19), (.ref b21), (.ref b23), (.ref b25), (.ref b27), (.int (0 : Int32)), .null, .null, (.int (0 : Int32))] :: F) := V27.putF 5 rfl 4 rfl W28
  have N28 := Fr.snoc X28 N26 (V27.old 5 rfl)
  have Z28 : n0 ≤ h28.size := by rw [W28.size]; exact Z27
  have O28 := O27.wr W28 (V27.old 5 rfl)
  refine OGets.step st28 ?_
  refine OGets.step (fun _ => XS.aloadN X28.here hx rfl (hb hby d71m1_45) rfl rfl) ?_
  refine OGets.step (fun _ => XS.iloadN X28.here hx rfl (hb hby d71m1_46) rfl) ?_
  obtain ⟨T29, h29, X29, e29, W29, st29⟩ := putF X28 hx hZ hown (host := "") (Or.inl (ow hw 23 rfl)) Via.refl e28 (V28.fld 5 rfl 5 rfl rfl) (V28.exa 5 rfl) (Or.inr ⟨(ow hw 24 rfl), rfl, hnm⟩) (ow hw 2 rfl) (ty := .int) (by decide) rfl rfl (g := (mkF m 47 #[rv a, iv (2 : Int32)] [(.int (2 : Int32)), (.ref a)])) rfl rfl (hb hby d71m1_47)
  have V29 : OView Z n0 h29 (oA b27 (List.replicate 16 (0 : Int32)) :: oA b25 (List.replicate 16 (0 : Int32)) :: oN b23 :: oA b21 (List.replicate 16 (0 : Int32)) :: oA b19 (List.replicate 16 (0 : Int32)) :: oP a [(.ref b19), (.ref b21), (.ref b23), (.ref b25), (.ref b27), (.int (2 : Int32)), .null, .null, (.int (0 : Int32))] :: F) := V28.putF 5 rfl 5 rfl W29
  have N29 := Fr.snoc X29 N28 (V28.old 5 rfl)
  have Z29 : n0 ≤ h29.size := by rw [W29.size]; exact Z28
  have O29 := O28.wr W29 (V28.old 5 rfl)
  refine OGets.step st29 ?_
  refine OGets.step (fun _ => XS.aloadN X29.here hx rfl (hb hby d71m1_50) rfl rfl) ?_
  refine OGets.step (fun _ => XS.bipush X29.here hx rfl (hb hby d71m1_51)) ?_
  refine OGets.step (fun _ => XS.iloadN X29.here hx rfl (hb hby d71m1_53) rfl) ?_
  refine OGets.step (fun _ => XS.imul X29.here hx rfl (hb hby d71m1_54) rfl) ?_
  show OGets p e below _ (T29.setTop (mkF m 55 #[rv a, iv (2 : Int32)] [(.int (32 : Int32)), (.ref a)]))
  obtain ⟨T30, h30, k30, X30, e30, E30, A30, Ex30, st30⟩ := newPE X29 hx hZ (ow hw 0 rfl) e29 (g := (mkF m 55 #[rv a, iv (2 : Int32)] [(.int (32 : Int32)), (.ref a)])) rfl (hb hby d71m1_55) rfl (by decide) (cap := 32) (by decide) (by decide) (by decide) (by decide) (ad := "[J") (by decide +kernel)
  have V30' := V29.newArr Z29 E30 A30 32 rfl (fun _ => Ex30)
  have Z30 : n0 ≤ h30.size := Nat.le_trans Z29 E30.1
  obtain ⟨b30, g30⟩ : ∃ z, z = h29.size := ⟨_, rfl⟩
  rw [← g30] at V30' st30
  have V30 : OView Z n0 h30 (oB b30 (List.replicate 32 (0 : Int64)) :: oA b27 (List.replicate 16 (0 : Int32)) :: oA b25 (List.replicate 16 (0 : Int32)) :: oN b23 :: oA b21 (List.replicate 16 (0 : Int32)) :: oA b19 (List.replicate 16 (0 : Int32)) :: oP a [(.ref b19), (.ref b21), (.ref b23), (.ref b25), (.ref b27), (.int (2 : Int32)), .null, .null, (.int (0 : Int32))] :: F) := V30'
  have O30 := O29.ext E30
  refine OGets.step st30 ?_
  obtain ⟨T31, h31, X31, e31, W31, st31⟩ := putF X30 hx hZ hown (host := "") (Or.inl (ow hw 25 rfl)) Via.refl e30 (V30.fld 6 rfl 6 rfl rfl) (V30.exa 6 rfl) (Or.inl (ow hw 26 rfl)) (ow hw 2 rfl) (ty := (.array .long)) (by decide) rfl rfl (g := (mkF m 57 #[rv a, iv (2 : Int32)] [(.ref b30), (.ref a)])) rfl rfl (hb hby d71m1_57)
  have V31 : OView Z n0 h31 (oB b30 (List.replicate 32 (0 : Int64)) :: oA b27 (List.replicate 16 (0 : Int32)) :: oA b25 (List.replicate 16 (0 : Int32)) :: oN b23 :: oA b21 (List.replicate 16 (0 : Int32)) :: oA b19 (List.replicate 16 (0 : Int32)) :: oP a [(.ref b19), (.ref b21), (.ref b23), (.ref b25), (.ref b27), (.int (2 : Int32)), (.ref b30), .null, (.int (0 : Int32))] :: F) := V30.putF 6 rfl 6 rfl W31
  have N31 := Fr.snoc X31 N29 (V30.old 6 rfl)
  have Z31 : n0 ≤ h31.size := by rw [W31.size]; exact Z30
  have O31 := O30.wr W31 (V30.old 6 rfl)
  refine OGets.step st31 ?_
  refine OGets.step (fun _ => XS.aloadN X31.here hx rfl (hb hby d71m1_60) rfl rfl) ?_
  refine OGets.step (fun _ => XS.bipush X31.here hx rfl (hb hby d71m1_61)) ?_
  refine OGets.step (fun _ => XS.iloadN X31.here hx rfl (hb hby d71m1_63) rfl) ?_
  refine OGets.step (fun _ => XS.imul X31.here hx rfl (hb hby d71m1_64) rfl) ?_
  show OGets p e below _ (T31.setTop (mkF m 65 #[rv a, iv (2 : Int32)] [(.int (32 : Int32)), (.ref a)]))
  obtain ⟨T32, h32, k32, X32, e32, E32, A32, Ex32, st32⟩ := newPE X31 hx hZ (ow hw 0 rfl) e31 (g := (mkF m 65 #[rv a, iv (2 : Int32)] [(.int (32 : Int32)), (.ref a)])) rfl (hb hby d71m1_65) rfl (by decide) (cap := 32) (by decide) (by decide) (by decide) (by decide) (ad := "[J") (by decide +kernel)
  have V32' := V31.newArr Z31 E32 A32 32 rfl (fun _ => Ex32)
  have Z32 : n0 ≤ h32.size := Nat.le_trans Z31 E32.1
  obtain ⟨b32, g32⟩ : ∃ z, z = h31.size := ⟨_, rfl⟩
  rw [← g32] at V32' st32
  have V32 : OView Z n0 h32 (oB b32 (List.replicate 32 (0 : Int64)) :: oB b30 (List.replicate 32 (0 : Int64)) :: oA b27 (List.replicate 16 (0 : Int32)) :: oA b25 (List.replicate 16 (0 : Int32)) :: oN b23 :: oA b21 (List.replicate 16 (0 : Int32)) :: oA b19 (List.replicate 16 (0 : Int32)) :: oP a [(.ref b19), (.ref b21), (.ref b23), (.ref b25), (.ref b27), (.int (2 : Int32)), (.ref b30), .null, (.int (0 : Int32))] :: F) := V32'
  have O32 := O31.ext E32
  refine OGets.step st32 ?_
  obtain ⟨T33, h33, X33, e33, W33, st33⟩ := putF X32 hx hZ hown (host := "") (Or.inl (ow hw 27 rfl)) Via.refl e32 (V32.fld 7 rfl 7 rfl rfl) (V32.exa 7 rfl) (Or.inl (ow hw 28 rfl)) (ow hw 2 rfl) (ty := (.array .long)) (by decide) rfl rfl (g := (mkF m 67 #[rv a, iv (2 : Int32)] [(.ref b32), (.ref a)])) rfl rfl (hb hby d71m1_67)
  have V33 : OView Z n0 h33 (oB b32 (List.replicate 32 (0 : Int64)) :: oB b30 (List.replicate 32 (0 : Int64)) :: oA b27 (List.replicate 16 (0 : Int32)) :: oA b25 (List.replicate 16 (0 : Int32)) :: oN b23 :: oA b21 (List.replicate 16 (0 : Int32)) :: oA b19 (List.replicate 16 (0 : Int32)) :: oP a [(.ref b19), (.ref b21), (.ref b23), (.ref b25), (.ref b27), (.int (2 : Int32)), (.ref b30), (.ref b32), (.int (0 : Int32))] :: F) := V32.putF 7 rfl 7 rfl W33
  have N33 := Fr.snoc X33 N31 (V32.old 7 rfl)
  have Z33 : n0 ≤ h33.size := by rw [W33.size]; exact Z32
  have O33 := O32.wr W33 (V32.old 7 rfl)
  refine OGets.step st33 ?_
  refine OGets.retV X33 hx hlk Bd.returns (hb hby d71m1_70) (Nat.le_of_ble_eq_true rfl) (Nat.le_of_ble_eq_true rfl) ?_
  have Vp34 : OView Z _ h33 (oP a [(.ref b19), (.ref b21), (.ref b23), (.ref b25), (.ref b27), (.int (2 : Int32)), (.ref b30), (.ref b32), (.int (0 : Int32))] :: oA b19 (List.replicate 16 (0 : Int32)) :: oA b21 (List.replicate 16 (0 : Int32)) :: oN b23 :: oA b25 (List.replicate 16 (0 : Int32)) :: oA b27 (List.replicate 16 (0 : Int32)) :: oB b30 (List.replicate 32 (0 : Int64)) :: oB b32 (List.replicate 32 (0 : Int64)) :: F) := (((((((V33.bring 1 rfl).bring 2 rfl).bring 3 rfl).bring 4 rfl).bring 5 rfl).bring 6 rfl).bring 7 rfl)
  rw [e33]
  exact ⟨rfl, N33, b19, b21, b23, b25, b27, b30, b32, Vp34, O33⟩
theorem pn_1 : plainName "java/util/Arrays" = true := by first | (simp [plainName, overriddenIn]; done) | decide +kernel
theorem dj65m30_0 : decode jdk_65_method_30_code 0 = .ok (.iload_n 1, 1) := by decide +kernel
theorem dj65m30_1 : decode jdk_65_method_30_code 1 = .ok (.iload_n 2, 1) := by decide +kernel
theorem dj65m30_2 : decode jdk_65_method_30_code 2 = .ok (.if_icmp .le 44, 3) := by decide +kernel
theorem dj65m30_46 : decode jdk_65_method_30_code 46 = .ok (.iload_n 1, 1) := by decide +kernel
theorem dj65m30_47 : decode jdk_65_method_30_code 47 = .ok (.ifCond .ge 12, 3) := by decide +kernel
theorem dj65m30_59 : decode jdk_65_method_30_code 59 = .ok (.iload_n 2, 1) := by decide +kernel
theorem dj65m30_60 : decode jdk_65_method_30_code 60 = .ok (.iload_n 0, 1) := by decide +kernel
theorem dj65m30_61 : decode jdk_65_method_30_code 61 = .ok (.if_icmp .le 12, 3) := by decide +kernel
theorem dj65m30_73 : decode jdk_65_method_30_code 73 = .ok (.return_, 1) := by decide +kernel
theorem ef_rc10 (m : MethodId) (x0 : Int32) (x1 : Int32) (x2 : Int32) : entryFrame m #[(.int x0), (.int x1), (.int x2)] 3 = mkF m 0 #[.val (.int x0), .val (.int x1), .val (.int x2)] [] := by first | (simp [entryFrame, mkF, argsToLocals, Value.category]; done) | rfl
def Q_rc10 (Z : State)  (h0 : Heap) (n0 : Nat) (v : Option Value) (h : Heap) (L : List Loc) : Prop := v = none ∧ L = [] ∧ h = h0
set_option maxRecDepth 65536 in
set_option maxHeartbeats 40000000 in
theorem rm_rc10 (l : Launch) (Z : State) (a0 : Array Value) (hw : ∀ d ∈ tables_1, d.before a0 Z = true) (ws : List Jvm.Cond)  (h0 : Heap) (n0 : Nat) (Z0 : n0 ≤ h0.size) :
    MetFree l (⟨"java/util/Arrays", "rangeCheck", "(III)V"⟩ : MethodName) (head1 (Jvm.Cond.code (⟨"java/util/Arrays", "rangeCheck", "(III)V"⟩ : MethodName) jdk_65_method_30_code 3 none :: ws) ({ frames := 0, cells := 0, slots := 0, locals := 0 } : Room)) (fun a_ U => a_ = #[(.int (16 : Int32)), (.int (0 : Int32)), (.int (1 : Int32))] ∧ Z.Warmed39 U.vm ∧ U.heap = h0) (fun _ _ _ _ _ => True) (fun _ U o U' => ∃ v L, o = .returned v ∧ Q_rc10 Z  h0 n0 v U'.heap L ∧ FrameEnd U o U' L ({ frames := 0, cells := 0, slots := 0, locals := 0 } : Room).cells ({ frames := 0, cells := 0, slots := 0, locals := 0 } : Room).slots) := by
  refine MetFree.of_bodySF (plainFor_of_name pn_1) hisR ?_
  intro p e s m args below meth c s₁ Bd hml0 hP hK
  obtain ⟨rfl, hZ, hh⟩ := hP
  have hx := Bd.exec
  have hby := Bd.bytes
  have hlk : meth.locks = false := Bd.notSynchronized
  have hml : c.maxLocals = 3 := hml0
  have hown : s.vm.findClass "java/util/Arrays" = some m.cls := findClass_of_methodNamed Bd.named
  have hnm := (name_of_methodNamed Bd.named Bd.method).1
  have X0 : Stand p l e ({ frames := 0, cells := 0, slots := 0, locals := 0 } : Room) s m #[(.int (16 : Int32)), (.int (0 : Int32)), (.int (1 : Int32))] below meth c s₁ [] 0 0 := Stand.of_body Bd
  have e0 : s₁.heap = h0 := by rw [← hh, Bd.state]; rfl
  have N0 := Fr.nil n0
  show OGets p e below (OLeaves s (Q_rc10 Z  h0 n0 ) ({ frames := 0, cells := 0, slots := 0, locals := 0 } : Room).cells ({ frames := 0, cells := 0, slots := 0, locals := 0 } : Room).slots) _
  refine OGets.enter (ef_rc10 m (16 : Int32) (0 : Int32) (1 : Int32)) ?_
  show OGets p e below _ (s₁.setTop (mkF m 0 #[iv (16 : Int32), iv (0 : Int32), iv (1 : Int32)] []))
  refine OGets.step (fun _ => XS.iloadN X0.here hx rfl (hb hby dj65m30_0) rfl) ?_
  refine OGets.step (fun _ => XS.iloadN X0.here hx rfl (hb hby dj65m30_1) rfl) ?_
  refine OGets.step (fun _ => XS.icmpYes X0.here hx rfl (pc0 := 2) (pc' := 46) rfl (hb hby dj65m30_2) rfl (flt (by decide : ¬ ((1 : Int32) < (0 : Int32)))).2.2.2 (by decide) (by decide)) ?_
  refine OGets.step (fun _ => XS.iloadN X0.here hx rfl (hb hby dj65m30_46) rfl) ?_
  refine OGets.step (fun _ => XS.ifYes X0.here hx rfl (pc0 := 47) (pc' := 59) rfl (hb hby dj65m30_47) rfl ((if0 _ _).trans (flt (by decide : ¬ ((0 : Int32) < (0 : Int32)))).2.1) (by decide) (by decide)) ?_
  refine OGets.step (fun _ => XS.iloadN X0.here hx rfl (hb hby dj65m30_59) rfl) ?_
  show OGets p e below _ (s₁.setTop (mkF m 60 #[iv (16 : Int32), iv (0 : Int32), iv (1 : Int32)] [(.int (1 : Int32))]))
  refine OGets.step (fun _ => XS.iloadN X0.here hx rfl (hb hby dj65m30_60) rfl) ?_
  refine OGets.step (fun _ => XS.icmpYes X0.here hx rfl (pc0 := 61) (pc' := 73) rfl (hb hby dj65m30_61) rfl (flt (by decide : ¬ ((16 : Int32) < (1 : Int32)))).2.2.2 (by decide) (by decide)) ?_
  refine OGets.retV X0 hx hlk Bd.returns (hb hby dj65m30_73) (Nat.le_of_ble_eq_true rfl) (Nat.le_of_ble_eq_true rfl) ?_
  exact ⟨rfl, rfl, e0⟩
theorem dj65m102_0 : decode jdk_65_method_102_code 0 = .ok (.aload_n 0, 1) := by decide +kernel
theorem dj65m102_1 : decode jdk_65_method_102_code 1 = .ok (.arraylength, 1) := by decide +kernel
theorem dj65m102_2 : decode jdk_65_method_102_code 2 = .ok (.iload_n 1, 1) := by decide +kernel
theorem dj65m102_3 : decode jdk_65_method_102_code 3 = .ok (.iload_n 2, 1) := by decide +kernel
theorem dj65m102_4 : decode jdk_65_method_102_code 4 = .ok (.invokestatic 13, 3) := by decide +kernel
theorem pd_2 : parseMethodDescriptor "(III)V" = some ⟨[.int, .int, .int], none⟩ := by decide +kernel
theorem dj65m102_7 : decode jdk_65_method_102_code 7 = .ok (.iload_n 1, 1) := by decide +kernel
theorem dj65m102_8 : decode jdk_65_method_102_code 8 = .ok (.istore 5, 2) := by decide +kernel
theorem dj65m102_10 : decode jdk_65_method_102_code 10 = .ok (.iload 5, 2) := by decide +kernel
theorem dj65m102_12 : decode jdk_65_method_102_code 12 = .ok (.iload_n 2, 1) := by decide +kernel
theorem dj65m102_13 : decode jdk_65_method_102_code 13 = .ok (.if_icmp .ge 14, 3) := by decide +kernel
theorem dj65m102_16 : decode jdk_65_method_102_code 16 = .ok (.aload_n 0, 1) := by decide +kernel
theorem dj65m102_17 : decode jdk_65_method_102_code 17 = .ok (.iload 5, 2) := by decide +kernel
theorem dj65m102_19 : decode jdk_65_method_102_code 19 = .ok (.lload_n 3, 1) := by decide +kernel
theorem dj65m102_20 : decode jdk_65_method_102_code 20 = .ok (.lastore, 1) := by decide +kernel
theorem dj65m102_21 : decode jdk_65_method_102_code 21 = .ok (.iinc 5 1, 3) := by decide +kernel
theorem dj65m102_24 : decode jdk_65_method_102_code 24 = .ok (.goto (-14), 3) := by decide +kernel
theorem dj65m102_27 : decode jdk_65_method_102_code 27 = .ok (.return_, 1) := by decide +kernel
theorem ef_fl10 (m : MethodId) (x0 : Addr) (x1 : Int32) (x2 : Int32) (x3 : Int64) : entryFrame m #[(.ref x0), (.int x1), (.int x2), (.long x3)] 6 = mkF m 0 #[.val (.ref x0), .val (.int x1), .val (.int x2), .val (.long x3), .second, .unset] [] := by first | (simp [entryFrame, mkF, argsToLocals, Value.category]; done) | rfl
def Q_fl10 (Z : State) (g : Addr) (GG : List Int64) (h0 : Heap) (n0 : Nat) (F : List (Addr × OObj)) (v : Option Value) (h : Heap) (L : List Loc) : Prop := v = none ∧ Fr n0 L ∧ OView Z n0 h (oB g (sj GG (0 : Int32) (0 : Int64)) :: F) ∧ Old Z n0 h
set_option maxRecDepth 65536 in
set_option maxHeartbeats 40000000 in
theorem rm_fl10 (l : Launch) (Z : State) (a0 : Array Value) (hw : ∀ d ∈ tables_1, d.before a0 Z = true) (ws : List Jvm.Cond) (g : Addr) (GG : List Int64) (h0 : Heap) (n0 : Nat) (F : List (Addr × OObj)) (Z0 : n0 ≤ h0.size) (hlG : GG.length = 16) (V0 : OView Z n0 h0 (oB g GG :: F)) (O0 : Old Z n0 h0) :
    MetFree l (⟨"java/util/Arrays", "fill", "([JIIJ)V"⟩ : MethodName) (head1 (Jvm.Cond.code (⟨"java/util/Arrays", "fill", "([JIIJ)V"⟩ : MethodName) jdk_65_method_102_code 6 none :: ws) ({ frames := 1, cells := 0, slots := 0, locals := 14 } : Room)) (fun a_ U => a_ = #[(.ref g), (.int (0 : Int32)), (.int (1 : Int32)), (.long (0 : Int64))] ∧ Z.Warmed39 U.vm ∧ U.heap = h0) (fun _ _ _ _ _ => True) (fun _ U o U' => ∃ v L, o = .returned v ∧ Q_fl10 Z g GG h0 n0 F v U'.heap L ∧ FrameEnd U o U' L ({ frames := 1, cells := 0, slots := 0, locals := 14 } : Room).cells ({ frames := 1, cells := 0, slots := 0, locals := 14 } : Room).slots) := by
  refine MetFree.of_bodySF (plainFor_of_name pn_1) hisR ?_
  intro p e s m args below meth c s₁ Bd hml0 hP hK
  obtain ⟨rfl, hZ, hh⟩ := hP
  have hx := Bd.exec
  have hby := Bd.bytes
  have hlk : meth.locks = false := Bd.notSynchronized
  have hml : c.maxLocals = 6 := hml0
  have hown : s.vm.findClass "java/util/Arrays" = some m.cls := findClass_of_methodNamed Bd.named
  have hnm := (name_of_methodNamed Bd.named Bd.method).1
  have X0 : Stand p l e ({ frames := 1, cells := 0, slots := 0, locals := 14 } : Room) s m #[(.ref g), (.int (0 : Int32)), (.int (1 : Int32)), (.long (0 : Int64))] below meth c s₁ [] 0 0 := Stand.of_body Bd
  have e0 : s₁.heap = h0 := by rw [← hh, Bd.state]; rfl
  have N0 := Fr.nil n0
  show OGets p e below (OLeaves s (Q_fl10 Z g GG h0 n0 F ) ({ frames := 1, cells := 0, slots := 0, locals := 14 } : Room).cells ({ frames := 1, cells := 0, slots := 0, locals := 14 } : Room).slots) _
  refine OGets.enter (ef_fl10 m g (0 : Int32) (1 : Int32) (0 : Int64)) ?_
  show OGets p e below _ (s₁.setTop (mkF m 0 #[rv g, iv (0 : Int32), iv (1 : Int32), jv (0 : Int64), sv, uv] []))
  refine OGets.step (fun _ => XS.aloadN X0.here hx rfl (hb hby dj65m102_0) rfl rfl) ?_
  obtain ⟨cl38, Ar38, S38⟩ := V0.arr 0 rfl
  have ln38 : cl38.slots.size.toInt32 = (16 : Int32) := by rw [own_len S38]; simp only [List.length_map, si_len, sj_len, List.length_replicate, hlG]; rfl
  refine OGets.step (U' := s₁.setTop (mkF m 2 #[rv g, iv (0 : Int32), iv (1 : Int32), jv (0 : Int64), sv, uv] [(.int (16 : Int32))])) (fun t kt => ?_) ?_
  · refine X0.arraylength hx (by rw [e0]; exact Ar38.1) (State.isArrayOf_alike hZ.alike Ar38.2.1) (g := (mkF m 1 #[rv g, iv (0 : Int32), iv (1 : Int32), jv (0 : Int64), sv, uv] [(.ref g)])) rfl rfl (hb hby dj65m102_1) _ ?_
    rw [ln38]; exact kt
  refine OGets.step (fun _ => XS.iloadN X0.here hx rfl (hb hby dj65m102_2) rfl) ?_
  refine OGets.step (fun _ => XS.iloadN X0.here hx rfl (hb hby dj65m102_3) rfl) ?_
  obtain ⟨_, _, ⟨T39, L39, k39, n39⟩, -, X39, ⟨Lc39, hQ39, l39, y39, z39⟩, st39⟩ := Jvm.LawKit.callS X0 hx (y := (⟨"java/util/Arrays", "rangeCheck", "(III)V"⟩ : MethodName)) hown (mvT hZ (ow hw 40 rfl)) (mvT hZ (ow hw 41 rfl)) (mvT hZ (ow hw 38 rfl)) (mvT hZ (ow hw 42 rfl)) (by decide) (backOf (W := 0) (rm_rc10 l Z a0 hw []  h0 n0  Z0 ) hZ (ow hw 42 rfl) (ow hw 38 rfl) (by decide) (by decide)) (g := (mkF m 4 #[rv g, iv (0 : Int32), iv (1 : Int32), jv (0 : Int64), sv, uv] [(.int (1 : Int32)), (.int (0 : Int32)), (.int (16 : Int32))])) rfl (by rw [hml]; rfl) (argsL := [(.int (16 : Int32)), (.int (0 : Int32)), (.int (1 : Int32))]) (rest := []) (lenOf pd_2 rfl) rfl (by show 2 * 0 + _ ≤ _; exact Nat.le_of_eq rfl) (hb hby dj65m102_4) (fun _ _ => ⟨rfl, e0, Nat.le_of_ble_eq_true rfl, Nat.le_of_ble_eq_true rfl⟩)
  dsimp only [Pt.U, Pt.locs, Pt.cells, Pt.slots] at X39 l39 y39 z39 st39 hQ39
  rw [l39, y39, z39] at X39
  obtain ⟨rfl, rfl, e39⟩ := hQ39
  have N39 := Fr.app N0 (Fr.nil n0)
  refine OGets.step st39 ?_
  refine OGets.step (fun _ => XS.iloadN X39.here hx rfl (hb hby dj65m102_7) rfl) ?_
  refine OGets.step (fun _ => XS.istore X39.here hx rfl (hb hby dj65m102_8) rfl (l' := #[rv g, iv (0 : Int32), iv (1 : Int32), jv (0 : Int64), sv, iv (0 : Int32)]) rfl) ?_
  refine OGets.step (fun _ => XS.iload X39.here hx rfl (hb hby dj65m102_10) rfl) ?_
  refine OGets.step (fun _ => XS.iloadN X39.here hx rfl (hb hby dj65m102_12) rfl) ?_
  refine OGets.step (fun _ => XS.icmpNo X39.here hx rfl (hb hby dj65m102_13) rfl (tlt (by decide : (0 : Int32) < (1 : Int32))).2.1) ?_
  show OGets p e below _ (T39.setTop (mkF m 16 #[rv g, iv (0 : Int32), iv (1 : Int32), jv (0 : Int64), sv, iv (0 : Int32)] []))
  refine OGets.step (fun _ => XS.aloadN X39.here hx rfl (hb hby dj65m102_16) rfl rfl) ?_
  refine OGets.step (fun _ => XS.iload X39.here hx rfl (hb hby dj65m102_17) rfl) ?_
  refine OGets.step (fun _ => XS.lloadN X39.here hx rfl (hb hby dj65m102_19) rfl) ?_
  obtain ⟨cl41, Ar41, S41⟩ := V0.arr 0 rfl
  obtain ⟨T41, h41, X41, e41, W41, st41⟩ := stJ X39 hx hZ e39 Ar41 (j := (0 : Int32)) (own_sin (n := 16) S41 (by simp only [List.length_map, si_len, sj_len, List.length_replicate, hlG]) (by decide)) (g := (mkF m 20 #[rv g, iv (0 : Int32), iv (1 : Int32), jv (0 : Int64), sv, iv (0 : Int32)] [(.long (0 : Int64)), (.int (0 : Int32)), (.ref g)])) rfl rfl (hb hby dj65m102_20)
  have V41 : OView Z n0 h41 (oB g (sj GG (0 : Int32) (0 : Int64)) :: F) := V0.putJ 0 rfl W41
  have N41 := Fr.snoc X41 N39 (V0.old 0 rfl)
  have Z41 : n0 ≤ h41.size := by rw [W41.size]; exact Z0
  have O41 := O0.wr W41 (V0.old 0 rfl)
  refine OGets.step st41 ?_
  refine OGets.step (fun _ => XS.iinc X41.here hx rfl (hb hby dj65m102_21) rfl (l' := #[rv g, iv (0 : Int32), iv (1 : Int32), jv (0 : Int64), sv, iv (1 : Int32)]) rfl) ?_
  refine OGets.step (fun _ => XS.goto X41.here hx rfl (pc0 := 24) (pc' := 10) rfl (hb hby dj65m102_24) (by decide) (by decide)) ?_
  refine OGets.step (fun _ => XS.iload X41.here hx rfl (hb hby dj65m102_10) rfl) ?_
  refine OGets.step (fun _ => XS.iloadN X41.here hx rfl (hb hby dj65m102_12) rfl) ?_
  refine OGets.step (fun _ => XS.icmpYes X41.here hx rfl (pc0 := 13) (pc' := 27) rfl (hb hby dj65m102_13) rfl (flt (by decide : ¬ ((1 : Int32) < (1 : Int32)))).2.1 (by decide) (by decide)) ?_
  show OGets p e below _ (T41.setTop (mkF m 27 #[rv g, iv (0 : Int32), iv (1 : Int32), jv (0 : Int64), sv, iv (1 : Int32)] []))
  refine OGets.retV X41 hx hlk Bd.returns (hb hby dj65m102_27) (Nat.le_of_ble_eq_true rfl) (Nat.le_of_ble_eq_true rfl) ?_
  rw [e41]
  exact ⟨rfl, N41, V41, O41⟩
theorem d71m4_0 : decode prog_71_method_4_code 0 = .ok (.aload_n 0, 1) := by decide +kernel
theorem d71m4_1 : decode prog_71_method_4_code 1 = .ok (.getfield 38, 3) := by decide +kernel
theorem d71m4_4 : decode prog_71_method_4_code 4 = .ok (.aload_n 0, 1) := by decide +kernel
theorem d71m4_5 : decode prog_71_method_4_code 5 = .ok (.getfield 7, 3) := by decide +kernel
theorem d71m4_8 : decode prog_71_method_4_code 8 = .ok (.arraylength, 1) := by decide +kernel
theorem d71m4_9 : decode prog_71_method_4_code 9 = .ok (.if_icmp .ne 135, 3) := by decide +kernel
theorem d71m4_144 : decode prog_71_method_4_code 144 = .ok (.aload_n 0, 1) := by decide +kernel
theorem d71m4_145 : decode prog_71_method_4_code 145 = .ok (.getfield 7, 3) := by decide +kernel
theorem d71m4_148 : decode prog_71_method_4_code 148 = .ok (.aload_n 0, 1) := by decide +kernel
theorem d71m4_149 : decode prog_71_method_4_code 149 = .ok (.getfield 38, 3) := by decide +kernel
theorem d71m4_152 : decode prog_71_method_4_code 152 = .ok (.iload_n 1, 1) := by decide +kernel
theorem d71m4_153 : decode prog_71_method_4_code 153 = .ok (.iastore, 1) := by decide +kernel
theorem d71m4_154 : decode prog_71_method_4_code 154 = .ok (.aload_n 0, 1) := by decide +kernel
theorem d71m4_155 : decode prog_71_method_4_code 155 = .ok (.getfield 13, 3) := by decide +kernel
theorem d71m4_158 : decode prog_71_method_4_code 158 = .ok (.aload_n 0, 1) := by decide +kernel
theorem d71m4_159 : decode prog_71_method_4_code 159 = .ok (.getfield 38, 3) := by decide +kernel
theorem d71m4_162 : decode prog_71_method_4_code 162 = .ok (.iconst 0, 1) := by decide +kernel
theorem d71m4_163 : decode prog_71_method_4_code 163 = .ok (.iastore, 1) := by decide +kernel
theorem d71m4_164 : decode prog_71_method_4_code 164 = .ok (.aload_n 0, 1) := by decide +kernel
theorem d71m4_165 : decode prog_71_method_4_code 165 = .ok (.getfield 17, 3) := by decide +kernel
theorem d71m4_168 : decode prog_71_method_4_code 168 = .ok (.aload_n 0, 1) := by decide +kernel
theorem d71m4_169 : decode prog_71_method_4_code 169 = .ok (.getfield 38, 3) := by decide +kernel
theorem d71m4_172 : decode prog_71_method_4_code 172 = .ok (.aconst_null, 1) := by decide +kernel
theorem d71m4_173 : decode prog_71_method_4_code 173 = .ok (.aastore, 1) := by decide +kernel
theorem d71m4_174 : decode prog_71_method_4_code 174 = .ok (.aload_n 0, 1) := by decide +kernel
theorem d71m4_175 : decode prog_71_method_4_code 175 = .ok (.getfield 21, 3) := by decide +kernel
theorem d71m4_178 : decode prog_71_method_4_code 178 = .ok (.aload_n 0, 1) := by decide +kernel
theorem d71m4_179 : decode prog_71_method_4_code 179 = .ok (.getfield 38, 3) := by decide +kernel
theorem d71m4_182 : decode prog_71_method_4_code 182 = .ok (.iconst 0, 1) := by decide +kernel
theorem d71m4_183 : decode prog_71_method_4_code 183 = .ok (.iastore, 1) := by decide +kernel
theorem d71m4_184 : decode prog_71_method_4_code 184 = .ok (.aload_n 0, 1) := by decide +kernel
theorem d71m4_185 : decode prog_71_method_4_code 185 = .ok (.getfield 24, 3) := by decide +kernel
theorem d71m4_188 : decode prog_71_method_4_code 188 = .ok (.aload_n 0, 1) := by decide +kernel
theorem d71m4_189 : decode prog_71_method_4_code 189 = .ok (.getfield 38, 3) := by decide +kernel
theorem d71m4_192 : decode prog_71_method_4_code 192 = .ok (.iconst (-1), 1) := by decide +kernel
theorem d71m4_193 : decode prog_71_method_4_code 193 = .ok (.iastore, 1) := by decide +kernel
theorem d71m4_194 : decode prog_71_method_4_code 194 = .ok (.aload_n 0, 1) := by decide +kernel
theorem d71m4_195 : decode prog_71_method_4_code 195 = .ok (.getfield 31, 3) := by decide +kernel
theorem d71m4_198 : decode prog_71_method_4_code 198 = .ok (.aload_n 0, 1) := by decide +kernel
theorem d71m4_199 : decode prog_71_method_4_code 199 = .ok (.getfield 38, 3) := by decide +kernel
theorem d71m4_202 : decode prog_71_method_4_code 202 = .ok (.aload_n 0, 1) := by decide +kernel
theorem d71m4_203 : decode prog_71_method_4_code 203 = .ok (.getfield 27, 3) := by decide +kernel
theorem d71m4_206 : decode prog_71_method_4_code 206 = .ok (.imul, 1) := by decide +kernel
theorem d71m4_207 : decode prog_71_method_4_code 207 = .ok (.aload_n 0, 1) := by decide +kernel
theorem d71m4_208 : decode prog_71_method_4_code 208 = .ok (.getfield 38, 3) := by decide +kernel
theorem d71m4_211 : decode prog_71_method_4_code 211 = .ok (.iconst 1, 1) := by decide +kernel
theorem d71m4_212 : decode prog_71_method_4_code 212 = .ok (.iadd, 1) := by decide +kernel
theorem d71m4_213 : decode prog_71_method_4_code 213 = .ok (.aload_n 0, 1) := by decide +kernel
theorem d71m4_214 : decode prog_71_method_4_code 214 = .ok (.getfield 27, 3) := by decide +kernel
theorem d71m4_217 : decode prog_71_method_4_code 217 = .ok (.imul, 1) := by decide +kernel
theorem d71m4_218 : decode prog_71_method_4_code 218 = .ok (.lconst 0, 1) := by decide +kernel
theorem d71m4_219 : decode prog_71_method_4_code 219 = .ok (.invokestatic 54, 3) := by decide +kernel
theorem pd_3 : parseMethodDescriptor "([JIIJ)V" = some ⟨[(.array .long), .int, .int, .long], none⟩ := by decide +kernel
theorem d71m4_222 : decode prog_71_method_4_code 222 = .ok (.aload_n 0, 1) := by decide +kernel
theorem d71m4_223 : decode prog_71_method_4_code 223 = .ok (.getfield 35, 3) := by decide +kernel
theorem d71m4_226 : decode prog_71_method_4_code 226 = .ok (.aload_n 0, 1) := by decide +kernel
theorem d71m4_227 : decode prog_71_method_4_code 227 = .ok (.getfield 38, 3) := by decide +kernel
theorem d71m4_230 : decode prog_71_method_4_code 230 = .ok (.aload_n 0, 1) := by decide +kernel
theorem d71m4_231 : decode prog_71_method_4_code 231 = .ok (.getfield 27, 3) := by decide +kernel
theorem d71m4_234 : decode prog_71_method_4_code 234 = .ok (.imul, 1) := by decide +kernel
theorem d71m4_235 : decode prog_71_method_4_code 235 = .ok (.aload_n 0, 1) := by decide +kernel
theorem d71m4_236 : decode prog_71_method_4_code 236 = .ok (.getfield 38, 3) := by decide +kernel
theorem d71m4_239 : decode prog_71_method_4_code 239 = .ok (.iconst 1, 1) := by decide +kernel
theorem d71m4_240 : decode prog_71_method_4_code 240 = .ok (.iadd, 1) := by decide +kernel
theorem d71m4_241 : decode prog_71_method_4_code 241 = .ok (.aload_n 0, 1) := by decide +kernel
theorem d71m4_242 : decode prog_71_method_4_code 242 = .ok (.getfield 27, 3) := by decide +kernel
theorem d71m4_245 : decode prog_71_method_4_code 245 = .ok (.imul, 1) := by decide +kernel
theorem d71m4_246 : decode prog_71_method_4_code 246 = .ok (.lconst 0, 1) := by decide +kernel
theorem d71m4_247 : decode prog_71_method_4_code 247 = .ok (.invokestatic 54, 3) := by decide +kernel
theorem d71m4_250 : decode prog_71_method_4_code 250 = .ok (.aload_n 0, 1) := by decide +kernel
theorem d71m4_251 : decode prog_71_method_4_code 251 = .ok (.dup, 1) := by decide +kernel
theorem d71m4_252 : decode prog_71_method_4_code 252 = .ok (.getfield 38, 3) := by decide +kernel
theorem d71m4_255 : decode prog_71_method_4_code 255 = .ok (.iconst 1, 1) := by decide +kernel
theorem d71m4_256 : decode prog_71_method_4_code 256 = .ok (.iadd, 1) := by decide +kernel
theorem d71m4_257 : decode prog_71_method_4_code 257 = .ok (.putfield 38, 3) := by decide +kernel
theorem d71m4_260 : decode prog_71_method_4_code 260 = .ok (.return_, 1) := by decide +kernel
theorem ef_add10 (m : MethodId) (x0 : Addr) (x1 : Int32) : entryFrame m #[(.ref x0), (.int x1)] 2 = mkF m 0 #[.val (.ref x0), .val (.int x1)] [] := by first | (simp [entryFrame, mkF, argsToLocals, Value.category]; done) | rfl
def Q_add10 (Z : State) (a : Addr) (ap : Addr) (as : Addr) (aq : Addr) (ax : Addr) (ak : Addr) (ag : Addr) (ab : Addr) (v0 : Int32) (PP : List Int32) (SS : List Int32) (XX : List Int32) (TT : List Int32) (GG : List Int64) (BB : List Int64) (h0 : Heap) (n0 : Nat) (F : List (Addr × OObj)) (v : Option Value) (h : Heap) (L : List Loc) : Prop := v = none ∧ Fr n0 L ∧ OView Z n0 h (oP a [(.ref ap), (.ref as), (.ref aq), (.ref ax), (.ref ak), (.int (1 : Int32)), (.ref ag), (.ref ab), (.int (1 : Int32))] :: oA ap (si PP (0 : Int32) v0) :: oA as (si SS (0 : Int32) (0 : Int32)) :: oN aq :: oA ax (si XX (0 : Int32) (0 : Int32)) :: oA ak (si TT (0 : Int32) (-1 : Int32)) :: oB ag (sj GG (0 : Int32) (0 : Int64)) :: oB ab (sj BB (0 : Int32) (0 : Int64)) :: F) ∧ Old Z n0 h
set_option maxRecDepth 65536 in
set_option maxHeartbeats 40000000 in
theorem rm_add10 (l : Launch) (Z : State) (a0 : Array Value) (hw : ∀ d ∈ tables_1, d.before a0 Z = true) (ws : List Jvm.Cond) (a : Addr) (ap : Addr) (as : Addr) (aq : Addr) (ax : Addr) (ak : Addr) (ag : Addr) (ab : Addr) (v0 : Int32) (PP : List Int32) (SS : List Int32) (XX : List Int32) (TT : List Int32) (GG : List Int64) (BB : List Int64) (h0 : Heap) (n0 : Nat) (F : List (Addr × OObj)) (Z0 : n0 ≤ h0.size) (hlP : PP.length = 16) (hlS : SS.length = 16) (hlX : XX.length = 16) (hlT : TT.length = 16) (hlG : GG.length = 16) (hlB : BB.length = 16) (V0 : OView Z n0 h0 (oP a [(.ref ap), (.ref as), (.ref aq), (.ref ax), (.ref ak), (.int (1 : Int32)), (.ref ag), (.ref ab), (.int (0 : Int32))] :: oA ap PP :: oA as SS :: oN aq :: oA ax XX :: oA ak TT :: oB ag GG :: oB ab BB :: F)) (O0 : Old Z n0 h0) :
    MetFree l (⟨"com/example/inya/inya/SearchPath", "add", "(I)V"⟩ : MethodName) (head1 (Jvm.Cond.code (⟨"com/example/inya/inya/SearchPath", "add", "(I)V"⟩ : MethodName) prog_71_method_4_code 2 none :: ws) ({ frames := 2, cells := 0, slots := 0, locals := 31 } : Room)) (fun a_ U => a_ = #[(.ref a), (.int v0)] ∧ Z.Warmed39 U.vm ∧ U.heap = h0) (fun _ _ _ _ _ => True) (fun _ U o U' => ∃ v L, o = .returned v ∧ Q_add10 Z a ap as aq ax ak ag ab v0 PP SS XX TT GG BB h0 n0 F v U'.heap L ∧ FrameEnd U o U' L ({ frames := 2, cells := 0, slots := 0, locals := 31 } : Room).cells ({ frames := 2, cells := 0, slots := 0, locals := 31 } : Room).slots) := by
  refine MetFree.of_bodySF (plainFor_of_name pn_0) hisR ?_
  intro p e s m args below meth c s₁ Bd hml0 hP hK
  obtain ⟨rfl, hZ, hh⟩ := hP
  have hx := Bd.exec
  have hby := Bd.bytes
  have hlk : meth.locks = false := Bd.notSynchronized
  have hml : c.maxLocals = 2 := hml0
  have hown : s.vm.findClass "com/example/inya/inya/SearchPath" = some m.cls := findClass_of_methodNamed Bd.named
  have hnm := (name_of_methodNamed Bd.named Bd.method).1
  have X0 : Stand p l e ({ frames := 2, cells := 0, slots := 0, locals := 31 } : Room) s m #[(.ref a), (.int v0)] below meth c s₁ [] 0 0 := Stand.of_body Bd
  have e0 : s₁.heap = h0 := by rw [← hh, Bd.state]; rfl
  have N0 := Fr.nil n0
  show OGets p e below (OLeaves s (Q_add10 Z a ap as aq ax ak ag ab v0 PP SS XX TT GG BB h0 n0 F ) ({ frames := 2, cells := 0, slots := 0, locals := 31 } : Room).cells ({ frames := 2, cells := 0, slots := 0, locals := 31 } : Room).slots) _
  refine OGets.enter (ef_add10 m a v0) ?_
  show OGets p e below _ (s₁.setTop (mkF m 0 #[rv a, iv v0] []))
  refine OGets.step (fun _ => XS.aloadN X0.here hx rfl (hb hby d71m4_0) rfl rfl) ?_
  obtain ⟨T43, X43, e43, st43⟩ := getF X0 hx hZ hown (host := "") (Or.inl (ow hw 34 rfl)) Via.refl e0 (V0.fld 0 rfl 8 rfl rfl) (g := (mkF m 1 #[rv a, iv v0] [(.ref a)])) rfl rfl (hb hby d71m4_1)
  refine OGets.step st43 ?_
  refine OGets.step (fun _ => XS.aloadN X43.here hx rfl (hb hby d71m4_4) rfl rfl) ?_
  obtain ⟨T44, X44, e44, st44⟩ := getF X43 hx hZ hown (host := "") (Or.inl (ow hw 11 rfl)) Via.refl e43 (V0.fld 0 rfl 0 rfl rfl) (g := (mkF m 5 #[rv a, iv v0] [(.ref a), (.int (0 : Int32))])) rfl rfl (hb hby d71m4_5)
  refine OGets.step st44 ?_
  obtain ⟨cl45, Ar45, S45⟩ := V0.arr 1 rfl
  have ln45 : cl45.slots.size.toInt32 = (16 : Int32) := by rw [own_len S45]; simp only [List.length_map, si_len, sj_len, List.length_replicate, hlP]; rfl
  refine OGets.step (U' := T44.setTop (mkF m 9 #[rv a, iv v0] [(.int (16 : Int32)), (.int (0 : Int32))])) (fun t kt => ?_) ?_
  · refine X44.arraylength hx (by rw [e44]; exact Ar45.1) (State.isArrayOf_alike hZ.alike Ar45.2.1) (g := (mkF m 8 #[rv a, iv v0] [(.ref ap), (.int (0 : Int32))])) rfl rfl (hb hby d71m4_8) _ ?_
    rw [ln45]; exact kt
  refine OGets.step (fun _ => XS.icmpYes X44.here hx rfl (pc0 := 9) (pc' := 144) rfl (hb hby d71m4_9) rfl (feq (by decide : ¬ ((0 : Int32) = (16 : Int32)))).2 (by decide) (by decide)) ?_
  refine OGets.step (fun _ => XS.aloadN X44.here hx rfl (hb hby d71m4_144) rfl rfl) ?_
  obtain ⟨T47, X47, e47, st47⟩ := getF X44 hx hZ hown (host := "") (Or.inl (ow hw 11 rfl)) Via.refl e44 (V0.fld 0 rfl 0 rfl rfl) (g := (mkF m 145 #[rv a, iv v0] [(.ref a)])) rfl rfl (hb hby d71m4_145)
  refine OGets.step st47 ?_
  refine OGets.step (fun _ => XS.aloadN X47.here hx rfl (hb hby d71m4_148) rfl rfl) ?_
  obtain ⟨T48, X48, e48, st48⟩ := getF X47 hx hZ hown (host := "") (Or.inl (ow hw 34 rfl)) Via.refl e47 (V0.fld 0 rfl 8 rfl rfl) (g := (mkF m 149 #[rv a, iv v0] [(.ref a), (.ref ap)])) rfl rfl (hb hby d71m4_149)
  refine OGets.step st48 ?_
  refine OGets.step (fun _ => XS.iloadN X48.here hx rfl (hb hby d71m4_152) rfl) ?_
  obtain ⟨cl49, Ar49, S49⟩ := V0.arr 1 rfl
  obtain ⟨T49, h49, X49, e49, W49, st49⟩ := stI X48 hx hZ e48 Ar49 (j := (0 : Int32)) (own_sin (n := 16) S49 (by simp only [List.length_map, si_len, sj_len, List.length_replicate, hlP]) (by decide)) (g := (mkF m 153 #[rv a, iv v0] [(.int v0), (.int (0 : Int32)), (.ref ap)])) rfl rfl (hb hby d71m4_153)
  have V49 : OView Z n0 h49 (oP a [(.ref ap), (.ref as), (.ref aq), (.ref ax), (.ref ak), (.int (1 : Int32)), (.ref ag), (.ref ab), (.int (0 : Int32))] :: oA ap (si PP (0 : Int32) v0) :: oA as SS :: oN aq :: oA ax XX :: oA ak TT :: oB ag GG :: oB ab BB :: F) := V0.putI 1 rfl W49
  have N49 := Fr.snoc X49 N0 (V0.old 1 rfl)
  have Z49 : n0 ≤ h49.size := by rw [W49.size]; exact Z0
  have O49 := O0.wr W49 (V0.old 1 rfl)
  refine OGets.step st49 ?_
  refine OGets.step (fun _ => XS.aloadN X49.here hx rfl (hb hby d71m4_154) rfl rfl) ?_
  obtain ⟨T50, X50, e50, st50⟩ := getF X49 hx hZ hown (host := "") (Or.inl (ow hw 13 rfl)) Via.refl e49 (V49.fld 0 rfl 1 rfl rfl) (g := (mkF m 155 #[rv a, iv v0] [(.ref a)])) rfl rfl (hb hby d71m4_155)
  refine OGets.step st50 ?_
  refine OGets.step (fun _ => XS.aloadN X50.here hx rfl (hb hby d71m4_158) rfl rfl) ?_
  obtain ⟨T51, X51, e51, st51⟩ := getF X50 hx hZ hown (host := "") (Or.inl (ow hw 34 rfl)) Via.refl e50 (V49.fld 0 rfl 8 rfl rfl) (g := (mkF m 159 #[rv a, iv v0] [(.ref a), (.ref as)])) rfl rfl (hb hby d71m4_159)
  refine OGets.step st51 ?_
  refine OGets.step (fun _ => XS.iconst X51.here hx rfl (hb hby d71m4_162)) ?_
  obtain ⟨cl52, Ar52, S52⟩ := V49.arr 2 rfl
  obtain ⟨T52, h52, X52, e52, W52, st52⟩ := stI X51 hx hZ e51 Ar52 (j := (0 : Int32)) (own_sin (n := 16) S52 (by simp only [List.length_map, si_len, sj_len, List.length_replicate, hlS]) (by decide)) (g := (mkF m 163 #[rv a, iv v0] [(.int (0 : Int32)), (.int (0 : Int32)), (.ref as)])) rfl rfl (hb hby d71m4_163)
  have V52 : OView Z n0 h52 (oP a [(.ref ap), (.ref as), (.ref aq), (.ref ax), (.ref ak), (.int (1 : Int32)), (.ref ag), (.ref ab), (.int (0 : Int32))] :: oA ap (si PP (0 : Int32) v0) :: oA as (si SS (0 : Int32) (0 : Int32)) :: oN aq :: oA ax XX :: oA ak TT :: oB ag GG :: oB ab BB :: F) := V49.putI 2 rfl W52
  have N52 := Fr.snoc X52 N49 (V49.old 2 rfl)
  have Z52 : n0 ≤ h52.size := by rw [W52.size]; exact Z49
  have O52 := O49.wr W52 (V49.old 2 rfl)
  refine OGets.step st52 ?_
  refine OGets.step (fun _ => XS.aloadN X52.here hx rfl (hb hby d71m4_164) rfl rfl) ?_
  obtain ⟨T53, X53, e53, st53⟩ := getF X52 hx hZ hown (host := "") (Or.inl (ow hw 17 rfl)) Via.refl e52 (V52.fld 0 rfl 2 rfl rfl) (g := (mkF m 165 #[rv a, iv v0] [(.ref a)])) rfl rfl (hb hby d71m4_165)
  refine OGets.step st53 ?_
  refine OGets.step (fun _ => XS.aloadN X53.here hx rfl (hb hby d71m4_168) rfl rfl) ?_
  obtain ⟨T54, X54, e54, st54⟩ := getF X53 hx hZ hown (host := "") (Or.inl (ow hw 34 rfl)) Via.refl e53 (V52.fld 0 rfl 8 rfl rfl) (g := (mkF m 169 #[rv a, iv v0] [(.ref a), (.ref aq)])) rfl rfl (hb hby d71m4_169)
  refine OGets.step st54 ?_
  refine OGets.step (fun _ => XS.aconstNull X54.here hx rfl (hb hby d71m4_172)) ?_
  obtain ⟨cl55, Ar55, S55⟩ := V52.arr 3 rfl
  obtain ⟨T55, h55, X55, e55, W55', st55⟩ := stR X54 hx hZ e54 Ar55 (j := (0 : Int32)) (own_inb S55 0 (by decide) (Nat.le_of_ble_eq_true rfl)) rfl (Or.inl rfl) (g := (mkF m 173 #[rv a, iv v0] [.null, (.int (0 : Int32)), (.ref aq)])) rfl rfl (hb hby d71m4_173)
  have W55 := own_wr (vs := []) 0 (by decide) W55'
  have V55 : OView Z n0 h55 (oP a [(.ref ap), (.ref as), (.ref aq), (.ref ax), (.ref ak), (.int (1 : Int32)), (.ref ag), (.ref ab), (.int (0 : Int32))] :: oA ap (si PP (0 : Int32) v0) :: oA as (si SS (0 : Int32) (0 : Int32)) :: oN aq :: oA ax XX :: oA ak TT :: oB ag GG :: oB ab BB :: F) := V52.putA 3 rfl W55
  have N55 := Fr.snoc X55 N52 (V52.old 3 rfl)
  have Z55 : n0 ≤ h55.size := by rw [W55.size]; exact Z52
  have O55 := O52.wr W55 (V52.old 3 rfl)
  refine OGets.step st55 ?_
  refine OGets.step (fun _ => XS.aloadN X55.here hx rfl (hb hby d71m4_174) rfl rfl) ?_
  obtain ⟨T56, X56, e56, st56⟩ := getF X55 hx hZ hown (host := "") (Or.inl (ow hw 19 rfl)) Via.refl e55 (V55.fld 0 rfl 3 rfl rfl) (g := (mkF m 175 #[rv a, iv v0] [(.ref a)])) rfl rfl (hb hby d71m4_175)
  refine OGets.step st56 ?_
  refine OGets.step (fun _ => XS.aloadN X56.here hx rfl (hb hby d71m4_178) rfl rfl) ?_
  obtain ⟨T57, X57, e57, st57⟩ := getF X56 hx hZ hown (host := "") (Or.inl (ow hw 34 rfl)) Via.refl e56 (V55.fld 0 rfl 8 rfl rfl) (g := (mkF m 179 #[rv a, iv v0] [(.ref a), (.ref ax)])) rfl rfl (hb hby d71m4_179)
  refine OGets.step st57 ?_
  refine OGets.step (fun _ => XS.iconst X57.here hx rfl (hb hby d71m4_182)) ?_
  obtain ⟨cl58, Ar58, S58⟩ := V55.arr 4 rfl
  obtain ⟨T58, h58, X58, e58, W58, st58⟩ := stI X57 hx hZ e57 Ar58 (j := (0 : Int32)) (own_sin (n := 16) S58 (by simp only [List.length_map, si_len, sj_len, List.length_replicate, hlX]) (by decide)) (g := (mkF m 183 #[rv a, iv v0] [(.int (0 : Int32)), (.int (0 : Int32)), (.ref ax)])) rfl rfl (hb hby d71m4_183)
  have V58 : OView Z n0 h58 (oP a [(.ref ap), (.ref as), (.ref aq), (.ref ax), (.ref ak), (.int (1 : Int32)), (.ref ag), (.ref ab), (.int (0 : Int32))] :: oA ap (si PP (0 : Int32) v0) :: oA as (si SS (0 : Int32) (0 : Int32)) :: oN aq :: oA ax (si XX (0 : Int32) (0 : Int32)) :: oA ak TT :: oB ag GG :: oB ab BB :: F) := V55.putI 4 rfl W58
  have N58 := Fr.snoc X58 N55 (V55.old 4 rfl)
  have Z58 : n0 ≤ h58.size := by rw [W58.size]; exact Z55
  have O58 := O55.wr W58 (V55.old 4 rfl)
  refine OGets.step st58 ?_
  refine OGets.step (fun _ => XS.aloadN X58.here hx rfl (hb hby d71m4_184) rfl rfl) ?_
  obtain ⟨T59, X59, e59, st59⟩ := getF X58 hx hZ hown (host := "") (Or.inl (ow hw 21 rfl)) Via.refl e58 (V58.fld 0 rfl 4 rfl rfl) (g := (mkF m 185 #[rv a, iv v0] [(.ref a)])) rfl rfl (hb hby d71m4_185)
  refine OGets.step st59 ?_
  refine OGets.step (fun _ => XS.aloadN X59.here hx rfl (hb hby d71m4_188) rfl rfl) ?_
  obtain ⟨T60, X60, e60, st60⟩ := getF X59 hx hZ hown (host := "") (Or.inl (ow hw 34 rfl)) Via.refl e59 (V58.fld 0 rfl 8 rfl rfl) (g := (mkF m 189 #[rv a, iv v0] [(.ref a), (.ref ak)])) rfl rfl (hb hby d71m4_189)
  refine OGets.step st60 ?_
  refine OGets.step (fun _ => XS.iconst X60.here hx rfl (hb hby d71m4_192)) ?_
  obtain ⟨cl61, Ar61, S61⟩ := V58.arr 5 rfl
  obtain ⟨T61, h61, X61, e61, W61, st61⟩ := stI X60 hx hZ e60 Ar61 (j := (0 : Int32)) (own_sin (n := 16) S61 (by simp only [List.length_map, si_len, sj_len, List.length_replicate, hlT]) (by decide)) (g := (mkF m 193 #[rv a, iv v0] [(.int (-1 : Int32)), (.int (0 : Int32)), (.ref ak)])) rfl rfl (hb hby d71m4_193)
  have V61 : OView Z n0 h61 (oP a [(.ref ap), (.ref as), (.ref aq), (.ref ax), (.ref ak), (.int (1 : Int32)), (.ref ag), (.ref ab), (.int (0 : Int32))] :: oA ap (si PP (0 : Int32) v0) :: oA as (si SS (0 : Int32) (0 : Int32)) :: oN aq :: oA ax (si XX (0 : Int32) (0 : Int32)) :: oA ak (si TT (0 : Int32) (-1 : Int32)) :: oB ag GG :: oB ab BB :: F) := V58.putI 5 rfl W61
  have N61 := Fr.snoc X61 N58 (V58.old 5 rfl)
  have Z61 : n0 ≤ h61.size := by rw [W61.size]; exact Z58
  have O61 := O58.wr W61 (V58.old 5 rfl)
  refine OGets.step st61 ?_
  refine OGets.step (fun _ => XS.aloadN X61.here hx rfl (hb hby d71m4_194) rfl rfl) ?_
  obtain ⟨T62, X62, e62, st62⟩ := getF X61 hx hZ hown (host := "") (Or.inl (ow hw 25 rfl)) Via.refl e61 (V61.fld 0 rfl 6 rfl rfl) (g := (mkF m 195 #[rv a, iv v0] [(.ref a)])) rfl rfl (hb hby d71m4_195)
  refine OGets.step st62 ?_
  refine OGets.step (fun _ => XS.aloadN X62.here hx rfl (hb hby d71m4_198) rfl rfl) ?_
  obtain ⟨T63, X63, e63, st63⟩ := getF X62 hx hZ hown (host := "") (Or.inl (ow hw 34 rfl)) Via.refl e62 (V61.fld 0 rfl 8 rfl rfl) (g := (mkF m 199 #[rv a, iv v0] [(.ref a), (.ref ag)])) rfl rfl (hb hby d71m4_199)
  refine OGets.step st63 ?_
  refine OGets.step (fun _ => XS.aloadN X63.here hx rfl (hb hby d71m4_202) rfl rfl) ?_
  obtain ⟨T64, X64, e64, st64⟩ := getF X63 hx hZ hown (host := "") (Or.inl (ow hw 23 rfl)) Via.refl e63 (V61.fld 0 rfl 5 rfl rfl) (g := (mkF m 203 #[rv a, iv v0] [(.ref a), (.int (0 : Int32)), (.ref ag)])) rfl rfl (hb hby d71m4_203)
  refine OGets.step st64 ?_
  refine OGets.step (fun _ => XS.imul X64.here hx rfl (hb hby d71m4_206) rfl) ?_
  show OGets p e below _ (T64.setTop (mkF m 207 #[rv a, iv v0] [(.int (0 : Int32)), (.ref ag)]))
  refine OGets.step (fun _ => XS.aloadN X64.here hx rfl (hb hby d71m4_207) rfl rfl) ?_
  obtain ⟨T65, X65, e65, st65⟩ := getF X64 hx hZ hown (host := "") (Or.inl (ow hw 34 rfl)) Via.refl e64 (V61.fld 0 rfl 8 rfl rfl) (g := (mkF m 208 #[rv a, iv v0] [(.ref a), (.int (0 : Int32)), (.ref ag)])) rfl rfl (hb hby d71m4_208)
  refine OGets.step st65 ?_
  refine OGets.step (fun _ => XS.iconst X65.here hx rfl (hb hby d71m4_211)) ?_
  refine OGets.step (fun _ => XS.iadd X65.here hx rfl (hb hby d71m4_212) rfl) ?_
  show OGets p e below _ (T65.setTop (mkF m 213 #[rv a, iv v0] [(.int (1 : Int32)), (.int (0 : Int32)), (.ref ag)]))
  refine OGets.step (fun _ => XS.aloadN X65.here hx rfl (hb hby d71m4_213) rfl rfl) ?_
  obtain ⟨T66, X66, e66, st66⟩ := getF X65 hx hZ hown (host := "") (Or.inl (ow hw 23 rfl)) Via.refl e65 (V61.fld 0 rfl 5 rfl rfl) (g := (mkF m 214 #[rv a, iv v0] [(.ref a), (.int (1 : Int32)), (.int (0 : Int32)), (.ref ag)])) rfl rfl (hb hby d71m4_214)
  refine OGets.step st66 ?_
  refine OGets.step (fun _ => XS.imul X66.here hx rfl (hb hby d71m4_217) rfl) ?_
  show OGets p e below _ (T66.setTop (mkF m 218 #[rv a, iv v0] [(.int (1 : Int32)), (.int (0 : Int32)), (.ref ag)]))
  refine OGets.step (fun _ => XS.lconst X66.here hx rfl (hb hby d71m4_218)) ?_
  have V67_ : OView Z _ h61 (oB ag GG :: oP a [(.ref ap), (.ref as), (.ref aq), (.ref ax), (.ref ak), (.int (1 : Int32)), (.ref ag), (.ref ab), (.int (0 : Int32))] :: oA ap (si PP (0 : Int32) v0) :: oA as (si SS (0 : Int32) (0 : Int32)) :: oN aq :: oA ax (si XX (0 : Int32) (0 : Int32)) :: oA ak (si TT (0 : Int32) (-1 : Int32)) :: oB ab BB :: F) := (V61.bring 6 rfl)
  obtain ⟨_, _, ⟨T67, L67, k67, n67⟩, -, X67, ⟨Lc67, hQ67, l67, y67, z67⟩, st67⟩ := Jvm.LawKit.callS X66 hx (y := (⟨"java/util/Arrays", "fill", "([JIIJ)V"⟩ : MethodName)) hown (mvT hZ (ow hw 36 rfl)) (mvT hZ (ow hw 37 rfl)) (mvT hZ (ow hw 38 rfl)) (mvT hZ (ow hw 39 rfl)) (by decide) (backOf (W := 0) (rm_fl10 l Z a0 hw [] ag GG h61 n0 _ Z61 (by simp only [sj_len, List.length_replicate, hlG]) V67_ O61) hZ (ow hw 39 rfl) (ow hw 38 rfl) (by decide) (by decide)) (g := (mkF m 219 #[rv a, iv v0] [(.long (0 : Int64)), (.int (1 : Int32)), (.int (0 : Int32)), (.ref ag)])) rfl (by rw [hml]; rfl) (argsL := [(.ref ag), (.int (0 : Int32)), (.int (1 : Int32)), (.long (0 : Int64))]) (rest := []) (lenOf pd_3 rfl) rfl (by show 2 * 0 + _ ≤ _; exact Nat.le_of_eq rfl) (hb hby d71m4_219) (fun _ _ => ⟨rfl, e66, Nat.le_of_ble_eq_true rfl, Nat.le_of_ble_eq_true rfl⟩)
  dsimp only [Pt.U, Pt.locs, Pt.cells, Pt.slots] at X67 l67 y67 z67 st67 hQ67
  rw [l67, y67, z67] at X67
  obtain ⟨rfl, N67q, V67, O67q⟩ := hQ67
  have N67 := Fr.app N61 N67q
  have V67v : OView Z n0 T67.heap (oB ag (sj GG (0 : Int32) (0 : Int64)) :: oP a [(.ref ap), (.ref as), (.ref aq), (.ref ax), (.ref ak), (.int (1 : Int32)), (.ref ag), (.ref ab), (.int (0 : Int32))] :: oA ap (si PP (0 : Int32) v0) :: oA as (si SS (0 : Int32) (0 : Int32)) :: oN aq :: oA ax (si XX (0 : Int32) (0 : Int32)) :: oA ak (si TT (0 : Int32) (-1 : Int32)) :: oB ab BB :: F) := V67
  have Z67 : n0 ≤ T67.heap.size := V67v.big 0 rfl
  refine OGets.step st67 ?_
  refine OGets.step (fun _ => XS.aloadN X67.here hx rfl (hb hby d71m4_222) rfl rfl) ?_
  obtain ⟨T68, X68, e68, st68⟩ := getF X67 hx hZ hown (host := "") (Or.inl (ow hw 27 rfl)) Via.refl rfl (V67v.fld 1 rfl 7 rfl rfl) (g := (mkF m 223 #[rv a, iv v0] [(.ref a)])) rfl rfl (hb hby d71m4_223)
  refine OGets.step st68 ?_
  refine OGets.step (fun _ => XS.aloadN X68.here hx rfl (hb hby d71m4_226) rfl rfl) ?_
  obtain ⟨T69, X69, e69, st69⟩ := getF X68 hx hZ hown (host := "") (Or.inl (ow hw 34 rfl)) Via.refl e68 (V67v.fld 1 rfl 8 rfl rfl) (g := (mkF m 227 #[rv a, iv v0] [(.ref a), (.ref ab)])) rfl rfl (hb hby d71m4_227)
  refine OGets.step st69 ?_
  refine OGets.step (fun _ => XS.aloadN X69.here hx rfl (hb hby d71m4_230) rfl rfl) ?_
  obtain ⟨T70, X70, e70, st70⟩ := getF X69 hx hZ hown (host := "") (Or.inl (ow hw 23 rfl)) Via.refl e69 (V67v.fld 1 rfl 5 rfl rfl) (g := (mkF m 231 #[rv a, iv v0] [(.ref a), (.int (0 : Int32)), (.ref ab)])) rfl rfl (hb hby d71m4_231)
  refine OGets.step st70 ?_
  refine OGets.step (fun _ => XS.imul X70.here hx rfl (hb hby d71m4_234) rfl) ?_
  show OGets p e below _ (T70.setTop (mkF m 235 #[rv a, iv v0] [(.int (0 : Int32)), (.ref ab)]))
  refine OGets.step (fun _ => XS.aloadN X70.here hx rfl (hb hby d71m4_235) rfl rfl) ?_
  obtain ⟨T71, X71, e71, st71⟩ := getF X70 hx hZ hown (host := "") (Or.inl (ow hw 34 rfl)) Via.refl e70 (V67v.fld 1 rfl 8 rfl rfl) (g := (mkF m 236 #[rv a, iv v0] [(.ref a), (.int (0 : Int32)), (.ref ab)])) rfl rfl (hb hby d71m4_236)
  refine OGets.step st71 ?_
  refine OGets.step (fun _ => XS.iconst X71.here hx rfl (hb hby d71m4_239)) ?_
  refine OGets.step (fun _ => XS.iadd X71.here hx rfl (hb hby d71m4_240) rfl) ?_
  show OGets p e below _ (T71.setTop (mkF m 241 #[rv a, iv v0] [(.int (1 : Int32)), (.int (0 : Int32)), (.ref ab)]))
  refine OGets.step (fun _ => XS.aloadN X71.here hx rfl (hb hby d71m4_241) rfl rfl) ?_
  obtain ⟨T72, X72, e72, st72⟩ := getF X71 hx hZ hown (host := "") (Or.inl (ow hw 23 rfl)) Via.refl e71 (V67v.fld 1 rfl 5 rfl rfl) (g := (mkF m 242 #[rv a, iv v0] [(.ref a), (.int (1 : Int32)), (.int (0 : Int32)), (.ref ab)])) rfl rfl (hb hby d71m4_242)
  refine OGets.step st72 ?_
  refine OGets.step (fun _ => XS.imul X72.here hx rfl (hb hby d71m4_245) rfl) ?_
  show OGets p e below _ (T72.setTop (mkF m 246 #[rv a, iv v0] [(.int (1 : Int32)), (.int (0 : Int32)), (.ref ab)]))
  refine OGets.step (fun _ => XS.lconst X72.here hx rfl (hb hby d71m4_246)) ?_
  have V73_ : OView Z _ T67.heap (oB ab BB :: oB ag (sj GG (0 : Int32) (0 : Int64)) :: oP a [(.ref ap), (.ref as), (.ref aq), (.ref ax), (.ref ak), (.int (1 : Int32)), (.ref ag), (.ref ab), (.int (0 : Int32))] :: oA ap (si PP (0 : Int32) v0) :: oA as (si SS (0 : Int32) (0 : Int32)) :: oN aq :: oA ax (si XX (0 : Int32) (0 : Int32)) :: oA ak (si TT (0 : Int32) (-1 : Int32)) :: F) := (V67v.bring 7 rfl)
  obtain ⟨_, _, ⟨T73, L73, k73, n73⟩, -, X73, ⟨Lc73, hQ73, l73, y73, z73⟩, st73⟩ := Jvm.LawKit.callS X72 hx (y := (⟨"java/util/Arrays", "fill", "([JIIJ)V"⟩ : MethodName)) hown (mvT hZ (ow hw 36 rfl)) (mvT hZ (ow hw 37 rfl)) (mvT hZ (ow hw 38 rfl)) (mvT hZ (ow hw 39 rfl)) (by decide) (backOf (W := 0) (rm_fl10 l Z a0 hw [] ab BB T67.heap n0 _ Z67 (by simp only [sj_len, List.length_replicate, hlB]) V73_ O67q) hZ (ow hw 39 rfl) (ow hw 38 rfl) (by decide) (by decide)) (g := (mkF m 247 #[rv a, iv v0] [(.long (0 : Int64)), (.int (1 : Int32)), (.int (0 : Int32)), (.ref ab)])) rfl (by rw [hml]; rfl) (argsL := [(.ref ab), (.int (0 : Int32)), (.int (1 : Int32)), (.long (0 : Int64))]) (rest := []) (lenOf pd_3 rfl) rfl (by show 2 * 0 + _ ≤ _; exact Nat.le_of_eq rfl) (hb hby d71m4_247) (fun _ _ => ⟨rfl, e72, Nat.le_of_ble_eq_true rfl, Nat.le_of_ble_eq_true rfl⟩)
  dsimp only [Pt.U, Pt.locs, Pt.cells, Pt.slots] at X73 l73 y73 z73 st73 hQ73
  rw [l73, y73, z73] at X73
  obtain ⟨rfl, N73q, V73, O73q⟩ := hQ73
  have N73 := Fr.app N67 N73q
  have V73v : OView Z n0 T73.heap (oB ab (sj BB (0 : Int32) (0 : Int64)) :: oB ag (sj GG (0 : Int32) (0 : Int64)) :: oP a [(.ref ap), (.ref as), (.ref aq), (.ref ax), (.ref ak), (.int (1 : Int32)), (.ref ag), (.ref ab), (.int (0 : Int32))] :: oA ap (si PP (0 : Int32) v0) :: oA as (si SS (0 : Int32) (0 : Int32)) :: oN aq :: oA ax (si XX (0 : Int32) (0 : Int32)) :: oA ak (si TT (0 : Int32) (-1 : Int32)) :: F) := V73
  have Z73 : n0 ≤ T73.heap.size := V73v.big 0 rfl
  refine OGets.step st73 ?_
  refine OGets.step (fun _ => XS.aloadN X73.here hx rfl (hb hby d71m4_250) rfl rfl) ?_
  refine OGets.step (fun _ => XS.dup X73.here hx rfl (hb hby d71m4_251) rfl rfl) ?_
  obtain ⟨T74, X74, e74, st74⟩ := getF X73 hx hZ hown (host := "") (Or.inl (ow hw 34 rfl)) Via.refl rfl (V73v.fld 2 rfl 8 rfl rfl) (g := (mkF m 252 #[rv a, iv v0] [(.ref a), (.ref a)])) rfl rfl (hb hby d71m4_252)
  refine OGets.step st74 ?_
  refine OGets.step (fun _ => XS.iconst X74.here hx rfl (hb hby d71m4_255)) ?_
  refine OGets.step (fun _ => XS.iadd X74.here hx rfl (hb hby d71m4_256) rfl) ?_
  show OGets p e below _ (T74.setTop (mkF m 257 #[rv a, iv v0] [(.int (1 : Int32)), (.ref a)]))
  obtain ⟨T75, h75, X75, e75, W75, st75⟩ := putF X74 hx hZ hown (host := "") (Or.inl (ow hw 34 rfl)) Via.refl e74 (V73v.fld 2 rfl 8 rfl rfl) (V73v.exa 2 rfl) (Or.inl (ow hw 35 rfl)) (ow hw 2 rfl) (ty := .int) (by decide) rfl rfl (g := (mkF m 257 #[rv a, iv v0] [(.int (1 : Int32)), (.ref a)])) rfl rfl (hb hby d71m4_257)
  have V75 : OView Z n0 h75 (oB ab (sj BB (0 : Int32) (0 : Int64)) :: oB ag (sj GG (0 : Int32) (0 : Int64)) :: oP a [(.ref ap), (.ref as), (.ref aq), (.ref ax), (.ref ak), (.int (1 : Int32)), (.ref ag), (.ref ab), (.int (1 : Int32))] :: oA ap (si PP (0 : Int32) v0) :: oA as (si SS (0 : Int32) (0 : Int32)) :: oN aq :: oA ax (si XX (0 : Int32) (0 : Int32)) :: oA ak (si TT (0 : Int32) (-1 : Int32)) :: F) := V73v.putF 2 rfl 8 rfl W75
  have N75 := Fr.snoc X75 N73 (V73v.old 2 rfl)
  have Z75 : n0 ≤ h75.size := by rw [W75.size]; exact Z73
  have O75 := O73q.wr W75 (V73v.old 2 rfl)
  refine OGets.step st75 ?_
  refine OGets.retV X75 hx hlk Bd.returns (hb hby d71m4_260) (Nat.le_of_ble_eq_true rfl) (Nat.le_of_ble_eq_true rfl) ?_
  have Vp76 : OView Z _ h75 (oP a [(.ref ap), (.ref as), (.ref aq), (.ref ax), (.ref ak), (.int (1 : Int32)), (.ref ag), (.ref ab), (.int (1 : Int32))] :: oA ap (si PP (0 : Int32) v0) :: oA as (si SS (0 : Int32) (0 : Int32)) :: oN aq :: oA ax (si XX (0 : Int32) (0 : Int32)) :: oA ak (si TT (0 : Int32) (-1 : Int32)) :: oB ag (sj GG (0 : Int32) (0 : Int64)) :: oB ab (sj BB (0 : Int32) (0 : Int64)) :: F) := (((((((V75.bring 1 rfl).bring 7 rfl).bring 7 rfl).bring 7 rfl).bring 7 rfl).bring 7 rfl).bring 7 rfl)
  rw [e75]
  exact ⟨rfl, N75, Vp76, O75⟩
theorem ef_rc11 (m : MethodId) (x0 : Int32) (x1 : Int32) (x2 : Int32) : entryFrame m #[(.int x0), (.int x1), (.int x2)] 3 = mkF m 0 #[.val (.int x0), .val (.int x1), .val (.int x2)] [] := by first | (simp [entryFrame, mkF, argsToLocals, Value.category]; done) | rfl
def Q_rc11 (Z : State)  (h0 : Heap) (n0 : Nat) (v : Option Value) (h : Heap) (L : List Loc) : Prop := v = none ∧ L = [] ∧ h = h0
set_option maxRecDepth 65536 in
set_option maxHeartbeats 40000000 in
theorem rm_rc11 (l : Launch) (Z : State) (a0 : Array Value) (hw : ∀ d ∈ tables_1, d.before a0 Z = true) (ws : List Jvm.Cond)  (h0 : Heap) (n0 : Nat) (Z0 : n0 ≤ h0.size) :
    MetFree l (⟨"java/util/Arrays", "rangeCheck", "(III)V"⟩ : MethodName) (head1 (Jvm.Cond.code (⟨"java/util/Arrays", "rangeCheck", "(III)V"⟩ : MethodName) jdk_65_method_30_code 3 none :: ws) ({ frames := 0, cells := 0, slots := 0, locals := 0 } : Room)) (fun a_ U => a_ = #[(.int (16 : Int32)), (.int (1 : Int32)), (.int (2 : Int32))] ∧ Z.Warmed39 U.vm ∧ U.heap = h0) (fun _ _ _ _ _ => True) (fun _ U o U' => ∃ v L, o = .returned v ∧ Q_rc11 Z  h0 n0 v U'.heap L ∧ FrameEnd U o U' L ({ frames := 0, cells := 0, slots := 0, locals := 0 } : Room).cells ({ frames := 0, cells := 0, slots := 0, locals := 0 } : Room).slots) := by
  refine MetFree.of_bodySF (plainFor_of_name pn_1) hisR ?_
  intro p e s m args below meth c s₁ Bd hml0 hP hK
  obtain ⟨rfl, hZ, hh⟩ := hP
  have hx := Bd.exec
  have hby := Bd.bytes
  have hlk : meth.locks = false := Bd.notSynchronized
  have hml : c.maxLocals = 3 := hml0
  have hown : s.vm.findClass "java/util/Arrays" = some m.cls := findClass_of_methodNamed Bd.named
  have hnm := (name_of_methodNamed Bd.named Bd.method).1
  have X0 : Stand p l e ({ frames := 0, cells := 0, slots := 0, locals := 0 } : Room) s m #[(.int (16 : Int32)), (.int (1 : Int32)), (.int (2 : Int32))] below meth c s₁ [] 0 0 := Stand.of_body Bd
  have e0 : s₁.heap = h0 := by rw [← hh, Bd.state]; rfl
  have N0 := Fr.nil n0
  show OGets p e below (OLeaves s (Q_rc11 Z  h0 n0 ) ({ frames := 0, cells := 0, slots := 0, locals := 0 } : Room).cells ({ frames := 0, cells := 0, slots := 0, locals := 0 } : Room).slots) _
  refine OGets.enter (ef_rc11 m (16 : Int32) (1 : Int32) (2 : Int32)) ?_
  show OGets p e below _ (s₁.setTop (mkF m 0 #[iv (16 : Int32), iv (1 : Int32), iv (2 : Int32)] []))
  refine OGets.step (fun _ => XS.iloadN X0.here hx rfl (hb hby dj65m30_0) rfl) ?_
  refine OGets.step (fun _ => XS.iloadN X0.here hx rfl (hb hby dj65m30_1) rfl) ?_
  refine OGets.step (fun _ => XS.icmpYes X0.here hx rfl (pc0 := 2) (pc' := 46) rfl (hb hby dj65m30_2) rfl (flt (by decide : ¬ ((2 : Int32) < (1 : Int32)))).2.2.2 (by decide) (by decide)) ?_
  refine OGets.step (fun _ => XS.iloadN X0.here hx rfl (hb hby dj65m30_46) rfl) ?_
  refine OGets.step (fun _ => XS.ifYes X0.here hx rfl (pc0 := 47) (pc' := 59) rfl (hb hby dj65m30_47) rfl ((if0 _ _).trans (flt (by decide : ¬ ((1 : Int32) < (0 : Int32)))).2.1) (by decide) (by decide)) ?_
  refine OGets.step (fun _ => XS.iloadN X0.here hx rfl (hb hby dj65m30_59) rfl) ?_
  show OGets p e below _ (s₁.setTop (mkF m 60 #[iv (16 : Int32), iv (1 : Int32), iv (2 : Int32)] [(.int (2 : Int32))]))
  refine OGets.step (fun _ => XS.iloadN X0.here hx rfl (hb hby dj65m30_60) rfl) ?_
  refine OGets.step (fun _ => XS.icmpYes X0.here hx rfl (pc0 := 61) (pc' := 73) rfl (hb hby dj65m30_61) rfl (flt (by decide : ¬ ((16 : Int32) < (2 : Int32)))).2.2.2 (by decide) (by decide)) ?_
  refine OGets.retV X0 hx hlk Bd.returns (hb hby dj65m30_73) (Nat.le_of_ble_eq_true rfl) (Nat.le_of_ble_eq_true rfl) ?_
  exact ⟨rfl, rfl, e0⟩
theorem ef_fl11 (m : MethodId) (x0 : Addr) (x1 : Int32) (x2 : Int32) (x3 : Int64) : entryFrame m #[(.ref x0), (.int x1), (.int x2), (.long x3)] 6 = mkF m 0 #[.val (.ref x0), .val (.int x1), .val (.int x2), .val (.long x3), .second, .unset] [] := by first | (simp [entryFrame, mkF, argsToLocals, Value.category]; done) | rfl
def Q_fl11 (Z : State) (g : Addr) (GG : List Int64) (h0 : Heap) (n0 : Nat) (F : List (Addr × OObj)) (v : Option Value) (h : Heap) (L : List Loc) : Prop := v = none ∧ Fr n0 L ∧ OView Z n0 h (oB g (sj GG (1 : Int32) (0 : Int64)) :: F) ∧ Old Z n0 h
set_option maxRecDepth 65536 in
set_option maxHeartbeats 40000000 in
theorem rm_fl11 (l : Launch) (Z : State) (a0 : Array Value) (hw : ∀ d ∈ tables_1, d.before a0 Z = true) (ws : List Jvm.Cond) (g : Addr) (GG : List Int64) (h0 : Heap) (n0 : Nat) (F : List (Addr × OObj)) (Z0 : n0 ≤ h0.size) (hlG : GG.length = 16) (V0 : OView Z n0 h0 (oB g GG :: F)) (O0 : Old Z n0 h0) :
    MetFree l (⟨"java/util/Arrays", "fill", "([JIIJ)V"⟩ : MethodName) (head1 (Jvm.Cond.code (⟨"java/util/Arrays", "fill", "([JIIJ)V"⟩ : MethodName) jdk_65_method_102_code 6 none :: ws) ({ frames := 1, cells := 0, slots := 0, locals := 14 } : Room)) (fun a_ U => a_ = #[(.ref g), (.int (1 : Int32)), (.int (2 : Int32)), (.long (0 : Int64))] ∧ Z.Warmed39 U.vm ∧ U.heap = h0) (fun _ _ _ _ _ => True) (fun _ U o U' => ∃ v L, o = .returned v ∧ Q_fl11 Z g GG h0 n0 F v U'.heap L ∧ FrameEnd U o U' L ({ frames := 1, cells := 0, slots := 0, locals := 14 } : Room).cells ({ frames := 1, cells := 0, slots := 0, locals := 14 } : Room).slots) := by
  refine MetFree.of_bodySF (plainFor_of_name pn_1) hisR ?_
  intro p e s m args below meth c s₁ Bd hml0 hP hK
  obtain ⟨rfl, hZ, hh⟩ := hP
  have hx := Bd.exec
  have hby := Bd.bytes
  have hlk : meth.locks = false := Bd.notSynchronized
  have hml : c.maxLocals = 6 := hml0
  have hown : s.vm.findClass "java/util/Arrays" = some m.cls := findClass_of_methodNamed Bd.named
  have hnm := (name_of_methodNamed Bd.named Bd.method).1
  have X0 : Stand p l e ({ frames := 1, cells := 0, slots := 0, locals := 14 } : Room) s m #[(.ref g), (.int (1 : Int32)), (.int (2 : Int32)), (.long (0 : Int64))] below meth c s₁ [] 0 0 := Stand.of_body Bd
  have e0 : s₁.heap = h0 := by rw [← hh, Bd.state]; rfl
  have N0 := Fr.nil n0
  show OGets p e below (OLeaves s (Q_fl11 Z g GG h0 n0 F ) ({ frames := 1, cells := 0, slots := 0, locals := 14 } : Room).cells ({ frames := 1, cells := 0, slots := 0, locals := 14 } : Room).slots) _
  refine OGets.enter (ef_fl11 m g (1 : Int32) (2 : Int32) (0 : Int64)) ?_
  show OGets p e below _ (s₁.setTop (mkF m 0 #[rv g, iv (1 : Int32), iv (2 : Int32), jv (0 : Int64), sv, uv] []))
  refine OGets.step (fun _ => XS.aloadN X0.here hx rfl (hb hby dj65m102_0) rfl rfl) ?_
  obtain ⟨cl80, Ar80, S80⟩ := V0.arr 0 rfl
  have ln80 : cl80.slots.size.toInt32 = (16 : Int32) := by rw [own_len S80]; simp only [List.length_map, si_len, sj_len, List.length_replicate, hlG]; rfl
  refine OGets.step (U' := s₁.setTop (mkF m 2 #[rv g, iv (1 : Int32), iv (2 : Int32), jv (0 : Int64), sv, uv] [(.int (16 : Int32))])) (fun t kt => ?_) ?_
  · refine X0.arraylength hx (by rw [e0]; exact Ar80.1) (State.isArrayOf_alike hZ.alike Ar80.2.1) (g := (mkF m 1 #[rv g, iv (1 : Int32), iv (2 : Int32), jv (0 : Int64), sv, uv] [(.ref g)])) rfl rfl (hb hby dj65m102_1) _ ?_
    rw [ln80]; exact kt
  refine OGets.step (fun _ => XS.iloadN X0.here hx rfl (hb hby dj65m102_2) rfl) ?_
  refine OGets.step (fun _ => XS.iloadN X0.here hx rfl (hb hby dj65m102_3) rfl) ?_
  obtain ⟨_, _, ⟨T81, L81, k81, n81⟩, -, X81, ⟨Lc81, hQ81, l81, y81, z81⟩, st81⟩ := Jvm.LawKit.callS X0 hx (y := (⟨"java/util/Arrays", "rangeCheck", "(III)V"⟩ : MethodName)) hown (mvT hZ (ow hw 40 rfl)) (mvT hZ (ow hw 41 rfl)) (mvT hZ (ow hw 38 rfl)) (mvT hZ (ow hw 42 rfl)) (by decide) (backOf (W := 0) (rm_rc11 l Z a0 hw []  h0 n0  Z0 ) hZ (ow hw 42 rfl) (ow hw 38 rfl) (by decide) (by decide)) (g := (mkF m 4 #[rv g, iv (1 : Int32), iv (2 : Int32), jv (0 : Int64), sv, uv] [(.int (2 : Int32)), (.int (1 : Int32)), (.int (16 : Int32))])) rfl (by rw [hml]; rfl) (argsL := [(.int (16 : Int32)), (.int (1 : Int32)), (.int (2 : Int32))]) (rest := []) (lenOf pd_2 rfl) rfl (by show 2 * 0 + _ ≤ _; exact Nat.le_of_eq rfl) (hb hby dj65m102_4) (fun _ _ => ⟨rfl, e0, Nat.le_of_ble_eq_true rfl, Nat.le_of_ble_eq_true rfl⟩)
  dsimp only [Pt.U, Pt.locs, Pt.cells, Pt.slots] at X81 l81 y81 z81 st81 hQ81
  rw [l81, y81, z81] at X81
  obtain ⟨rfl, rfl, e81⟩ := hQ81
  have N81 := Fr.app N0 (Fr.nil n0)
  refine OGets.step st81 ?_
  refine OGets.step (fun _ => XS.iloadN X81.here hx rfl (hb hby dj65m102_7) rfl) ?_
  refine OGets.step (fun _ => XS.istore X81.here hx rfl (hb hby dj65m102_8) rfl (l' := #[rv g, iv (1 : Int32), iv (2 : Int32), jv (0 : Int64), sv, iv (1 : Int32)]) rfl) ?_
  refine OGets.step (fun _ => XS.iload X81.here hx rfl (hb hby dj65m102_10) rfl) ?_
  refine OGets.step (fun _ => XS.iloadN X81.here hx rfl (hb hby dj65m102_12) rfl) ?_
  refine OGets.step (fun _ => XS.icmpNo X81.here hx rfl (hb hby dj65m102_13) rfl (tlt (by decide : (1 : Int32) < (2 : Int32))).2.1) ?_
  show OGets p e below _ (T81.setTop (mkF m 16 #[rv g, iv (1 : Int32), iv (2 : Int32), jv (0 : Int64), sv, iv (1 : Int32)] []))
  refine OGets.step (fun _ => XS.aloadN X81.here hx rfl (hb hby dj65m102_16) rfl rfl) ?_
  refine OGets.step (fun _ => XS.iload X81.here hx rfl (hb hby dj65m102_17) rfl) ?_
  refine OGets.step (fun _ => XS.lloadN X81.here hx rfl (hb hby dj65m102_19) rfl) ?_
  obtain ⟨cl83, Ar83, S83⟩ := V0.arr 0 rfl
  obtain ⟨T83, h83, X83, e83, W83, st83⟩ := stJ X81 hx hZ e81 Ar83 (j := (1 : Int32)) (own_sin (n := 16) S83 (by simp only [List.length_map, si_len, sj_len, List.length_replicate, hlG]) (by decide)) (g := (mkF m 20 #[rv g, iv (1 : Int32), iv (2 : Int32), jv (0 : Int64), sv, iv (1 : Int32)] [(.long (0 : Int64)), (.int (1 : Int32)), (.ref g)])) rfl rfl (hb hby dj65m102_20)
  have V83 : OView Z n0 h83 (oB g (sj GG (1 : Int32) (0 : Int64)) :: F) := V0.putJ 0 rfl W83
  have N83 := Fr.snoc X83 N81 (V0.old 0 rfl)
  have Z83 : n0 ≤ h83.size := by rw [W83.size]; exact Z0
  have O83 := O0.wr W83 (V0.old 0 rfl)
  refine OGets.step st83 ?_
  refine OGets.step (fun _ => XS.iinc X83.here hx rfl (hb hby dj65m102_21) rfl (l' := #[rv g, iv (1 : Int32), iv (2 : Int32), jv (0 : Int64), sv, iv (2 : Int32)]) rfl) ?_
  refine OGets.step (fun _ => XS.goto X83.here hx rfl (pc0 := 24) (pc' := 10) rfl (hb hby dj65m102_24) (by decide) (by decide)) ?_
  refine OGets.step (fun _ => XS.iload X83.here hx rfl (hb hby dj65m102_10) rfl) ?_
  refine OGets.step (fun _ => XS.iloadN X83.here hx rfl (hb hby dj65m102_12) rfl) ?_
  refine OGets.step (fun _ => XS.icmpYes X83.here hx rfl (pc0 := 13) (pc' := 27) rfl (hb hby dj65m102_13) rfl (flt (by decide : ¬ ((2 : Int32) < (2 : Int32)))).2.1 (by decide) (by decide)) ?_
  show OGets p e below _ (T83.setTop (mkF m 27 #[rv g, iv (1 : Int32), iv (2 : Int32), jv (0 : Int64), sv, iv (2 : Int32)] []))
  refine OGets.retV X83 hx hlk Bd.returns (hb hby dj65m102_27) (Nat.le_of_ble_eq_true rfl) (Nat.le_of_ble_eq_true rfl) ?_
  rw [e83]
  exact ⟨rfl, N83, V83, O83⟩
theorem ef_add11 (m : MethodId) (x0 : Addr) (x1 : Int32) : entryFrame m #[(.ref x0), (.int x1)] 2 = mkF m 0 #[.val (.ref x0), .val (.int x1)] [] := by first | (simp [entryFrame, mkF, argsToLocals, Value.category]; done) | rfl
def Q_add11 (Z : State) (a : Addr) (ap : Addr) (as : Addr) (aq : Addr) (ax : Addr) (ak : Addr) (ag : Addr) (ab : Addr) (v0 : Int32) (PP : List Int32) (SS : List Int32) (XX : List Int32) (TT : List Int32) (GG : List Int64) (BB : List Int64) (h0 : Heap) (n0 : Nat) (F : List (Addr × OObj)) (v : Option Value) (h : Heap) (L : List Loc) : Prop := v = none ∧ Fr n0 L ∧ OView Z n0 h (oP a [(.ref ap), (.ref as), (.ref aq), (.ref ax), (.ref ak), (.int (1 : Int32)), (.ref ag), (.ref ab), (.int (2 : Int32))] :: oA ap (si PP (1 : Int32) v0) :: oA as (si SS (1 : Int32) (0 : Int32)) :: oN aq :: oA ax (si XX (1 : Int32) (0 : Int32)) :: oA ak (si TT (1 : Int32) (-1 : Int32)) :: oB ag (sj GG (1 : Int32) (0 : Int64)) :: oB ab (sj BB (1 : Int32) (0 : Int64)) :: F) ∧ Old Z n0 h
set_option maxRecDepth 65536 in
set_option maxHeartbeats 40000000 in
theorem rm_add11 (l : Launch) (Z : State) (a0 : Array Value) (hw : ∀ d ∈ tables_1, d.before a0 Z = true) (ws : List Jvm.Cond) (a : Addr) (ap : Addr) (as : Addr) (aq : Addr) (ax : Addr) (ak : Addr) (ag : Addr) (ab : Addr) (v0 : Int32) (PP : List Int32) (SS : List Int32) (XX : List Int32) (TT : List Int32) (GG : List Int64) (BB : List Int64) (h0 : Heap) (n0 : Nat) (F : List (Addr × OObj)) (Z0 : n0 ≤ h0.size) (hlP : PP.length = 16) (hlS : SS.length = 16) (hlX : XX.length = 16) (hlT : TT.length = 16) (hlG : GG.length = 16) (hlB : BB.length = 16) (V0 : OView Z n0 h0 (oP a [(.ref ap), (.ref as), (.ref aq), (.ref ax), (.ref ak), (.int (1 : Int32)), (.ref ag), (.ref ab), (.int (1 : Int32))] :: oA ap PP :: oA as SS :: oN aq :: oA ax XX :: oA ak TT :: oB ag GG :: oB ab BB :: F)) (O0 : Old Z n0 h0) :
    MetFree l (⟨"com/example/inya/inya/SearchPath", "add", "(I)V"⟩ : MethodName) (head1 (Jvm.Cond.code (⟨"com/example/inya/inya/SearchPath", "add", "(I)V"⟩ : MethodName) prog_71_method_4_code 2 none :: ws) ({ frames := 2, cells := 0, slots := 0, locals := 31 } : Room)) (fun a_ U => a_ = #[(.ref a), (.int v0)] ∧ Z.Warmed39 U.vm ∧ U.heap = h0) (fun _ _ _ _ _ => True) (fun _ U o U' => ∃ v L, o = .returned v ∧ Q_add11 Z a ap as aq ax ak ag ab v0 PP SS XX TT GG BB h0 n0 F v U'.heap L ∧ FrameEnd U o U' L ({ frames := 2, cells := 0, slots := 0, locals := 31 } : Room).cells ({ frames := 2, cells := 0, slots := 0, locals := 31 } : Room).slots) := by
  refine MetFree.of_bodySF (plainFor_of_name pn_0) hisR ?_
  intro p e s m args below meth c s₁ Bd hml0 hP hK
  obtain ⟨rfl, hZ, hh⟩ := hP
  have hx := Bd.exec
  have hby := Bd.bytes
  have hlk : meth.locks = false := Bd.notSynchronized
  have hml : c.maxLocals = 2 := hml0
  have hown : s.vm.findClass "com/example/inya/inya/SearchPath" = some m.cls := findClass_of_methodNamed Bd.named
  have hnm := (name_of_methodNamed Bd.named Bd.method).1
  have X0 : Stand p l e ({ frames := 2, cells := 0, slots := 0, locals := 31 } : Room) s m #[(.ref a), (.int v0)] below meth c s₁ [] 0 0 := Stand.of_body Bd
  have e0 : s₁.heap = h0 := by rw [← hh, Bd.state]; rfl
  have N0 := Fr.nil n0
  show OGets p e below (OLeaves s (Q_add11 Z a ap as aq ax ak ag ab v0 PP SS XX TT GG BB h0 n0 F ) ({ frames := 2, cells := 0, slots := 0, locals := 31 } : Room).cells ({ frames := 2, cells := 0, slots := 0, locals := 31 } : Room).slots) _
  refine OGets.enter (ef_add11 m a v0) ?_
  show OGets p e below _ (s₁.setTop (mkF m 0 #[rv a, iv v0] []))
  refine OGets.step (fun _ => XS.aloadN X0.here hx rfl (hb hby d71m4_0) rfl rfl) ?_
  obtain ⟨T85, X85, e85, st85⟩ := getF X0 hx hZ hown (host := "") (Or.inl (ow hw 34 rfl)) Via.refl e0 (V0.fld 0 rfl 8 rfl rfl) (g := (mkF m 1 #[rv a, iv v0] [(.ref a)])) rfl rfl (hb hby d71m4_1)
  refine OGets.step st85 ?_
  refine OGets.step (fun _ => XS.aloadN X85.here hx rfl (hb hby d71m4_4) rfl rfl) ?_
  obtain ⟨T86, X86, e86, st86⟩ := getF X85 hx hZ hown (host := "") (Or.inl (ow hw 11 rfl)) Via.refl e85 (V0.fld 0 rfl 0 rfl rfl) (g := (mkF m 5 #[rv a, iv v0] [(.ref a), (.int (1 : Int32))])) rfl rfl (hb hby d71m4_5)
  refine OGets.step st86 ?_
  obtain ⟨cl87, Ar87, S87⟩ := V0.arr 1 rfl
  have ln87 : cl87.slots.size.toInt32 = (16 : Int32) := by rw [own_len S87]; simp only [List.length_map, si_len, sj_len, List.length_replicate, hlP]; rfl
  refine OGets.step (U' := T86.setTop (mkF m 9 #[rv a, iv v0] [(.int (16 : Int32)), (.int (1 : Int32))])) (fun t kt => ?_) ?_
  · refine X86.arraylength hx (by rw [e86]; exact Ar87.1) (State.isArrayOf_alike hZ.alike Ar87.2.1) (g := (mkF m 8 #[rv a, iv v0] [(.ref ap), (.int (1 : Int32))])) rfl rfl (hb hby d71m4_8) _ ?_
    rw [ln87]; exact kt
  refine OGets.step (fun _ => XS.icmpYes X86.here hx rfl (pc0 := 9) (pc' := 144) rfl (hb hby d71m4_9) rfl (feq (by decide : ¬ ((1 : Int32) = (16 : Int32)))).2 (by decide) (by decide)) ?_
  refine OGets.step (fun _ => XS.aloadN X86.here hx rfl (hb hby d71m4_144) rfl rfl) ?_
  obtain ⟨T89, X89, e89, st89⟩ := getF X86 hx hZ hown (host := "") (Or.inl (ow hw 11 rfl)) Via.refl e86 (V0.fld 0 rfl 0 rfl rfl) (g := (mkF m 145 #[rv a, iv v0] [(.ref a)])) rfl rfl (hb hby d71m4_145)
  refine OGets.step st89 ?_
  refine OGets.step (fun _ => XS.aloadN X89.here hx rfl (hb hby d71m4_148) rfl rfl) ?_
  obtain ⟨T90, X90, e90, st90⟩ := getF X89 hx hZ hown (host := "") (Or.inl (ow hw 34 rfl)) Via.refl e89 (V0.fld 0 rfl 8 rfl rfl) (g := (mkF m 149 #[rv a, iv v0] [(.ref a), (.ref ap)])) rfl rfl (hb hby d71m4_149)
  refine OGets.step st90 ?_
  refine OGets.step (fun _ => XS.iloadN X90.here hx rfl (hb hby d71m4_152) rfl) ?_
  obtain ⟨cl91, Ar91, S91⟩ := V0.arr 1 rfl
  obtain ⟨T91, h91, X91, e91, W91, st91⟩ := stI X90 hx hZ e90 Ar91 (j := (1 : Int32)) (own_sin (n := 16) S91 (by simp only [List.length_map, si_len, sj_len, List.length_replicate, hlP]) (by decide)) (g := (mkF m 153 #[rv a, iv v0] [(.int v0), (.int (1 : Int32)), (.ref ap)])) rfl rfl (hb hby d71m4_153)
  have V91 : OView Z n0 h91 (oP a [(.ref ap), (.ref as), (.ref aq), (.ref ax), (.ref ak), (.int (1 : Int32)), (.ref ag), (.ref ab), (.int (1 : Int32))] :: oA ap (si PP (1 : Int32) v0) :: oA as SS :: oN aq :: oA ax XX :: oA ak TT :: oB ag GG :: oB ab BB :: F) := V0.putI 1 rfl W91
  have N91 := Fr.snoc X91 N0 (V0.old 1 rfl)
  have Z91 : n0 ≤ h91.size := by rw [W91.size]; exact Z0
  have O91 := O0.wr W91 (V0.old 1 rfl)
  refine OGets.step st91 ?_
  refine OGets.step (fun _ => XS.aloadN X91.here hx rfl (hb hby d71m4_154) rfl rfl) ?_
  obtain ⟨T92, X92, e92, st92⟩ := getF X91 hx hZ hown (host := "") (Or.inl (ow hw 13 rfl)) Via.refl e91 (V91.fld 0 rfl 1 rfl rfl) (g := (mkF m 155 #[rv a, iv v0] [(.ref a)])) rfl rfl (hb hby d71m4_155)
  refine OGets.step st92 ?_
  refine OGets.step (fun _ => XS.aloadN X92.here hx rfl (hb hby d71m4_158) rfl rfl) ?_
  obtain ⟨T93, X93, e93, st93⟩ := getF X92 hx hZ hown (host := "") (Or.inl (ow hw 34 rfl)) Via.refl e92 (V91.fld 0 rfl 8 rfl rfl) (g := (mkF m 159 #[rv a, iv v0] [(.ref a), (.ref as)])) rfl rfl (hb hby d71m4_159)
  refine OGets.step st93 ?_
  refine OGets.step (fun _ => XS.iconst X93.here hx rfl (hb hby d71m4_162)) ?_
  obtain ⟨cl94, Ar94, S94⟩ := V91.arr 2 rfl
  obtain ⟨T94, h94, X94, e94, W94, st94⟩ := stI X93 hx hZ e93 Ar94 (j := (1 : Int32)) (own_sin (n := 16) S94 (by simp only [List.length_map, si_len, sj_len, List.length_replicate, hlS]) (by decide)) (g := (mkF m 163 #[rv a, iv v0] [(.int (0 : Int32)), (.int (1 : Int32)), (.ref as)])) rfl rfl (hb hby d71m4_163)
  have V94 : OView Z n0 h94 (oP a [(.ref ap), (.ref as), (.ref aq), (.ref ax), (.ref ak), (.int (1 : Int32)), (.ref ag), (.ref ab), (.int (1 : Int32))] :: oA ap (si PP (1 : Int32) v0) :: oA as (si SS (1 : Int32) (0 : Int32)) :: oN aq :: oA ax XX :: oA ak TT :: oB ag GG :: oB ab BB :: F) := V91.putI 2 rfl W94
  have N94 := Fr.snoc X94 N91 (V91.old 2 rfl)
  have Z94 : n0 ≤ h94.size := by rw [W94.size]; exact Z91
  have O94 := O91.wr W94 (V91.old 2 rfl)
  refine OGets.step st94 ?_
  refine OGets.step (fun _ => XS.aloadN X94.here hx rfl (hb hby d71m4_164) rfl rfl) ?_
  obtain ⟨T95, X95, e95, st95⟩ := getF X94 hx hZ hown (host := "") (Or.inl (ow hw 17 rfl)) Via.refl e94 (V94.fld 0 rfl 2 rfl rfl) (g := (mkF m 165 #[rv a, iv v0] [(.ref a)])) rfl rfl (hb hby d71m4_165)
  refine OGets.step st95 ?_
  refine OGets.step (fun _ => XS.aloadN X95.here hx rfl (hb hby d71m4_168) rfl rfl) ?_
  obtain ⟨T96, X96, e96, st96⟩ := getF X95 hx hZ hown (host := "") (Or.inl (ow hw 34 rfl)) Via.refl e95 (V94.fld 0 rfl 8 rfl rfl) (g := (mkF m 169 #[rv a, iv v0] [(.ref a), (.ref aq)])) rfl rfl (hb hby d71m4_169)
  refine OGets.step st96 ?_
  refine OGets.step (fun _ => XS.aconstNull X96.here hx rfl (hb hby d71m4_172)) ?_
  obtain ⟨cl97, Ar97, S97⟩ := V94.arr 3 rfl
  obtain ⟨T97, h97, X97, e97, W97', st97⟩ := stR X96 hx hZ e96 Ar97 (j := (1 : Int32)) (own_inb S97 1 (by decide) (Nat.le_of_ble_eq_true rfl)) rfl (Or.inl rfl) (g := (mkF m 173 #[rv a, iv v0] [.null, (.int (1 : Int32)), (.ref aq)])) rfl rfl (hb hby d71m4_173)
  have W97 := own_wr (vs := []) 1 (by decide) W97'
  have V97 : OView Z n0 h97 (oP a [(.ref ap), (.ref as), (.ref aq), (.ref ax), (.ref ak), (.int (1 : Int32)), (.ref ag), (.ref ab), (.int (1 : Int32))] :: oA ap (si PP (1 : Int32) v0) :: oA as (si SS (1 : Int32) (0 : Int32)) :: oN aq :: oA ax XX :: oA ak TT :: oB ag GG :: oB ab BB :: F) := V94.putA 3 rfl W97
  have N97 := Fr.snoc X97 N94 (V94.old 3 rfl)
  have Z97 : n0 ≤ h97.size := by rw [W97.size]; exact Z94
  have O97 := O94.wr W97 (V94.old 3 rfl)
  refine OGets.step st97 ?_
  refine OGets.step (fun _ => XS.aloadN X97.here hx rfl (hb hby d71m4_174) rfl rfl) ?_
  obtain ⟨T98, X98, e98, st98⟩ := getF X97 hx hZ hown (host := "") (Or.inl (ow hw 19 rfl)) Via.refl e97 (V97.fld 0 rfl 3 rfl rfl) (g := (mkF m 175 #[rv a, iv v0] [(.ref a)])) rfl rfl (hb hby d71m4_175)
  refine OGets.step st98 ?_
  refine OGets.step (fun _ => XS.aloadN X98.here hx rfl (hb hby d71m4_178) rfl rfl) ?_
  obtain ⟨T99, X99, e99, st99⟩ := getF X98 hx hZ hown (host := "") (Or.inl (ow hw 34 rfl)) Via.refl e98 (V97.fld 0 rfl 8 rfl rfl) (g := (mkF m 179 #[rv a, iv v0] [(.ref a), (.ref ax)])) rfl rfl (hb hby d71m4_179)
  refine OGets.step st99 ?_
  refine OGets.step (fun _ => XS.iconst X99.here hx rfl (hb hby d71m4_182)) ?_
  obtain ⟨cl100, Ar100, S100⟩ := V97.arr 4 rfl
  obtain ⟨T100, h100, X100, e100, W100, st100⟩ := stI X99 hx hZ e99 Ar100 (j := (1 : Int32)) (own_sin (n := 16) S100 (by simp only [List.length_map, si_len, sj_len, List.length_replicate, hlX]) (by decide)) (g := (mkF m 183 #[rv a, iv v0] [(.int (0 : Int32)), (.int (1 : Int32)), (.ref ax)])) rfl rfl (hb hby d71m4_183)
  have V100 : OView Z n0 h100 (oP a [(.ref ap), (.ref as), (.ref aq), (.ref ax), (.ref ak), (.int (1 : Int32)), (.ref ag), (.ref ab), (.int (1 : Int32))] :: oA ap (si PP (1 : Int32) v0) :: oA as (si SS (1 : Int32) (0 : Int32)) :: oN aq :: oA ax (si XX (1 : Int32) (0 : Int32)) :: oA ak TT :: oB ag GG :: oB ab BB :: F) := V97.putI 4 rfl W100
  have N100 := Fr.snoc X100 N97 (V97.old 4 rfl)
  have Z100 : n0 ≤ h100.size := by rw [W100.size]; exact Z97
  have O100 := O97.wr W100 (V97.old 4 rfl)
  refine OGets.step st100 ?_
  refine OGets.step (fun _ => XS.aloadN X100.here hx rfl (hb hby d71m4_184) rfl rfl) ?_
  obtain ⟨T101, X101, e101, st101⟩ := getF X100 hx hZ hown (host := "") (Or.inl (ow hw 21 rfl)) Via.refl e100 (V100.fld 0 rfl 4 rfl rfl) (g := (mkF m 185 #[rv a, iv v0] [(.ref a)])) rfl rfl (hb hby d71m4_185)
  refine OGets.step st101 ?_
  refine OGets.step (fun _ => XS.aloadN X101.here hx rfl (hb hby d71m4_188) rfl rfl) ?_
  obtain ⟨T102, X102, e102, st102⟩ := getF X101 hx hZ hown (host := "") (Or.inl (ow hw 34 rfl)) Via.refl e101 (V100.fld 0 rfl 8 rfl rfl) (g := (mkF m 189 #[rv a, iv v0] [(.ref a), (.ref ak)])) rfl rfl (hb hby d71m4_189)
  refine OGets.step st102 ?_
  refine OGets.step (fun _ => XS.iconst X102.here hx rfl (hb hby d71m4_192)) ?_
  obtain ⟨cl103, Ar103, S103⟩ := V100.arr 5 rfl
  obtain ⟨T103, h103, X103, e103, W103, st103⟩ := stI X102 hx hZ e102 Ar103 (j := (1 : Int32)) (own_sin (n := 16) S103 (by simp only [List.length_map, si_len, sj_len, List.length_replicate, hlT]) (by decide)) (g := (mkF m 193 #[rv a, iv v0] [(.int (-1 : Int32)), (.int (1 : Int32)), (.ref ak)])) rfl rfl (hb hby d71m4_193)
  have V103 : OView Z n0 h103 (oP a [(.ref ap), (.ref as), (.ref aq), (.ref ax), (.ref ak), (.int (1 : Int32)), (.ref ag), (.ref ab), (.int (1 : Int32))] :: oA ap (si PP (1 : Int32) v0) :: oA as (si SS (1 : Int32) (0 : Int32)) :: oN aq :: oA ax (si XX (1 : Int32) (0 : Int32)) :: oA ak (si TT (1 : Int32) (-1 : Int32)) :: oB ag GG :: oB ab BB :: F) := V100.putI 5 rfl W103
  have N103 := Fr.snoc X103 N100 (V100.old 5 rfl)
  have Z103 : n0 ≤ h103.size := by rw [W103.size]; exact Z100
  have O103 := O100.wr W103 (V100.old 5 rfl)
  refine OGets.step st103 ?_
  refine OGets.step (fun _ => XS.aloadN X103.here hx rfl (hb hby d71m4_194) rfl rfl) ?_
  obtain ⟨T104, X104, e104, st104⟩ := getF X103 hx hZ hown (host := "") (Or.inl (ow hw 25 rfl)) Via.refl e103 (V103.fld 0 rfl 6 rfl rfl) (g := (mkF m 195 #[rv a, iv v0] [(.ref a)])) rfl rfl (hb hby d71m4_195)
  refine OGets.step st104 ?_
  refine OGets.step (fun _ => XS.aloadN X104.here hx rfl (hb hby d71m4_198) rfl rfl) ?_
  obtain ⟨T105, X105, e105, st105⟩ := getF X104 hx hZ hown (host := "") (Or.inl (ow hw 34 rfl)) Via.refl e104 (V103.fld 0 rfl 8 rfl rfl) (g := (mkF m 199 #[rv a, iv v0] [(.ref a), (.ref ag)])) rfl rfl (hb hby d71m4_199)
  refine OGets.step st105 ?_
  refine OGets.step (fun _ => XS.aloadN X105.here hx rfl (hb hby d71m4_202) rfl rfl) ?_
  obtain ⟨T106, X106, e106, st106⟩ := getF X105 hx hZ hown (host := "") (Or.inl (ow hw 23 rfl)) Via.refl e105 (V103.fld 0 rfl 5 rfl rfl) (g := (mkF m 203 #[rv a, iv v0] [(.ref a), (.int (1 : Int32)), (.ref ag)])) rfl rfl (hb hby d71m4_203)
  refine OGets.step st106 ?_
  refine OGets.step (fun _ => XS.imul X106.here hx rfl (hb hby d71m4_206) rfl) ?_
  show OGets p e below _ (T106.setTop (mkF m 207 #[rv a, iv v0] [(.int (1 : Int32)), (.ref ag)]))
  refine OGets.step (fun _ => XS.aloadN X106.here hx rfl (hb hby d71m4_207) rfl rfl) ?_
  obtain ⟨T107, X107, e107, st107⟩ := getF X106 hx hZ hown (host := "") (Or.inl (ow hw 34 rfl)) Via.refl e106 (V103.fld 0 rfl 8 rfl rfl) (g := (mkF m 208 #[rv a, iv v0] [(.ref a), (.int (1 : Int32)), (.ref ag)])) rfl rfl (hb hby d71m4_208)
  refine OGets.step st107 ?_
  refine OGets.step (fun _ => XS.iconst X107.here hx rfl (hb hby d71m4_211)) ?_
  refine OGets.step (fun _ => XS.iadd X107.here hx rfl (hb hby d71m4_212) rfl) ?_
  show OGets p e below _ (T107.setTop (mkF m 213 #[rv a, iv v0] [(.int (2 : Int32)), (.int (1 : Int32)), (.ref ag)]))
  refine OGets.step (fun _ => XS.aloadN X107.here hx rfl (hb hby d71m4_213) rfl rfl) ?_
  obtain ⟨T108, X108, e108, st108⟩ := getF X107 hx hZ hown (host := "") (Or.inl (ow hw 23 rfl)) Via.refl e107 (V103.fld 0 rfl 5 rfl rfl) (g := (mkF m 214 #[rv a, iv v0] [(.ref a), (.int (2 : Int32)), (.int (1 : Int32)), (.ref ag)])) rfl rfl (hb hby d71m4_214)
  refine OGets.step st108 ?_
  refine OGets.step (fun _ => XS.imul X108.here hx rfl (hb hby d71m4_217) rfl) ?_
  show OGets p e below _ (T108.setTop (mkF m 218 #[rv a, iv v0] [(.int (2 : Int32)), (.int (1 : Int32)), (.ref ag)]))
  refine OGets.step (fun _ => XS.lconst X108.here hx rfl (hb hby d71m4_218)) ?_
  have V109_ : OView Z _ h103 (oB ag GG :: oP a [(.ref ap), (.ref as), (.ref aq), (.ref ax), (.ref ak), (.int (1 : Int32)), (.ref ag), (.ref ab), (.int (1 : Int32))] :: oA ap (si PP (1 : Int32) v0) :: oA as (si SS (1 : Int32) (0 : Int32)) :: oN aq :: oA ax (si XX (1 : Int32) (0 : Int32)) :: oA ak (si TT (1 : Int32) (-1 : Int32)) :: oB ab BB :: F) := (V103.bring 6 rfl)
  obtain ⟨_, _, ⟨T109, L109, k109, n109⟩, -, X109, ⟨Lc109, hQ109, l109, y109, z109⟩, st109⟩ := Jvm.LawKit.callS X108 hx (y := (⟨"java/util/Arrays", "fill", "([JIIJ)V"⟩ : MethodName)) hown (mvT hZ (ow hw 36 rfl)) (mvT hZ (ow hw 37 rfl)) (mvT hZ (ow hw 38 rfl)) (mvT hZ (ow hw 39 rfl)) (by decide) (backOf (W := 0) (rm_fl11 l Z a0 hw [] ag GG h103 n0 _ Z103 (by simp only [sj_len, List.length_replicate, hlG]) V109_ O103) hZ (ow hw 39 rfl) (ow hw 38 rfl) (by decide) (by decide)) (g := (mkF m 219 #[rv a, iv v0] [(.long (0 : Int64)), (.int (2 : Int32)), (.int (1 : Int32)), (.ref ag)])) rfl (by rw [hml]; rfl) (argsL := [(.ref ag), (.int (1 : Int32)), (.int (2 : Int32)), (.long (0 : Int64))]) (rest := []) (lenOf pd_3 rfl) rfl (by show 2 * 0 + _ ≤ _; exact Nat.le_of_eq rfl) (hb hby d71m4_219) (fun _ _ => ⟨rfl, e108, Nat.le_of_ble_eq_true rfl, Nat.le_of_ble_eq_true rfl⟩)
  dsimp only [Pt.U, Pt.locs, Pt.cells, Pt.slots] at X109 l109 y109 z109 st109 hQ109
  rw [l109, y109, z109] at X109
  obtain ⟨rfl, N109q, V109, O109q⟩ := hQ109
  have N109 := Fr.app N103 N109q
  have V109v : OView Z n0 T109.heap (oB ag (sj GG (1 : Int32) (0 : Int64)) :: oP a [(.ref ap), (.ref as), (.ref aq), (.ref ax), (.ref ak), (.int (1 : Int32)), (.ref ag), (.ref ab), (.int (1 : Int32))] :: oA ap (si PP (1 : Int32) v0) :: oA as (si SS (1 : Int32) (0 : Int32)) :: oN aq :: oA ax (si XX (1 : Int32) (0 : Int32)) :: oA ak (si TT (1 : Int32) (-1 : Int32)) :: oB ab BB :: F) := V109
  have Z109 : n0 ≤ T109.heap.size := V109v.big 0 rfl
  refine OGets.step st109 ?_
  refine OGets.step (fun _ => XS.aloadN X109.here hx rfl (hb hby d71m4_222) rfl rfl) ?_
  obtain ⟨T110, X110, e110, st110⟩ := getF X109 hx hZ hown (host := "") (Or.inl (ow hw 27 rfl)) Via.refl rfl (V109v.fld 1 rfl 7 rfl rfl) (g := (mkF m 223 #[rv a, iv v0] [(.ref a)])) rfl rfl (hb hby d71m4_223)
  refine OGets.step st110 ?_
  refine OGets.step (fun _ => XS.aloadN X110.here hx rfl (hb hby d71m4_226) rfl rfl) ?_
  obtain ⟨T111, X111, e111, st111⟩ := getF X110 hx hZ hown (host := "") (Or.inl (ow hw 34 rfl)) Via.refl e110 (V109v.fld 1 rfl 8 rfl rfl) (g := (mkF m 227 #[rv a, iv v0] [(.ref a), (.ref ab)])) rfl rfl (hb hby d71m4_227)
  refine OGets.step st111 ?_
  refine OGets.step (fun _ => XS.aloadN X111.here hx rfl (hb hby d71m4_230) rfl rfl) ?_
  obtain ⟨T112, X112, e112, st112⟩ := getF X111 hx hZ hown (host := "") (Or.inl (ow hw 23 rfl)) Via.refl e111 (V109v.fld 1 rfl 5 rfl rfl) (g := (mkF m 231 #[rv a, iv v0] [(.ref a), (.int (1 : Int32)), (.ref ab)])) rfl rfl (hb hby d71m4_231)
  refine OGets.step st112 ?_
  refine OGets.step (fun _ => XS.imul X112.here hx rfl (hb hby d71m4_234) rfl) ?_
  show OGets p e below _ (T112.setTop (mkF m 235 #[rv a, iv v0] [(.int (1 : Int32)), (.ref ab)]))
  refine OGets.step (fun _ => XS.aloadN X112.here hx rfl (hb hby d71m4_235) rfl rfl) ?_
  obtain ⟨T113, X113, e113, st113⟩ := getF X112 hx hZ hown (host := "") (Or.inl (ow hw 34 rfl)) Via.refl e112 (V109v.fld 1 rfl 8 rfl rfl) (g := (mkF m 236 #[rv a, iv v0] [(.ref a), (.int (1 : Int32)), (.ref ab)])) rfl rfl (hb hby d71m4_236)
  refine OGets.step st113 ?_
  refine OGets.step (fun _ => XS.iconst X113.here hx rfl (hb hby d71m4_239)) ?_
  refine OGets.step (fun _ => XS.iadd X113.here hx rfl (hb hby d71m4_240) rfl) ?_
  show OGets p e below _ (T113.setTop (mkF m 241 #[rv a, iv v0] [(.int (2 : Int32)), (.int (1 : Int32)), (.ref ab)]))
  refine OGets.step (fun _ => XS.aloadN X113.here hx rfl (hb hby d71m4_241) rfl rfl) ?_
  obtain ⟨T114, X114, e114, st114⟩ := getF X113 hx hZ hown (host := "") (Or.inl (ow hw 23 rfl)) Via.refl e113 (V109v.fld 1 rfl 5 rfl rfl) (g := (mkF m 242 #[rv a, iv v0] [(.ref a), (.int (2 : Int32)), (.int (1 : Int32)), (.ref ab)])) rfl rfl (hb hby d71m4_242)
  refine OGets.step st114 ?_
  refine OGets.step (fun _ => XS.imul X114.here hx rfl (hb hby d71m4_245) rfl) ?_
  show OGets p e below _ (T114.setTop (mkF m 246 #[rv a, iv v0] [(.int (2 : Int32)), (.int (1 : Int32)), (.ref ab)]))
  refine OGets.step (fun _ => XS.lconst X114.here hx rfl (hb hby d71m4_246)) ?_
  have V115_ : OView Z _ T109.heap (oB ab BB :: oB ag (sj GG (1 : Int32) (0 : Int64)) :: oP a [(.ref ap), (.ref as), (.ref aq), (.ref ax), (.ref ak), (.int (1 : Int32)), (.ref ag), (.ref ab), (.int (1 : Int32))] :: oA ap (si PP (1 : Int32) v0) :: oA as (si SS (1 : Int32) (0 : Int32)) :: oN aq :: oA ax (si XX (1 : Int32) (0 : Int32)) :: oA ak (si TT (1 : Int32) (-1 : Int32)) :: F) := (V109v.bring 7 rfl)
  obtain ⟨_, _, ⟨T115, L115, k115, n115⟩, -, X115, ⟨Lc115, hQ115, l115, y115, z115⟩, st115⟩ := Jvm.LawKit.callS X114 hx (y := (⟨"java/util/Arrays", "fill", "([JIIJ)V"⟩ : MethodName)) hown (mvT hZ (ow hw 36 rfl)) (mvT hZ (ow hw 37 rfl)) (mvT hZ (ow hw 38 rfl)) (mvT hZ (ow hw 39 rfl)) (by decide) (backOf (W := 0) (rm_fl11 l Z a0 hw [] ab BB T109.heap n0 _ Z109 (by simp only [sj_len, List.length_replicate, hlB]) V115_ O109q) hZ (ow hw 39 rfl) (ow hw 38 rfl) (by decide) (by decide)) (g := (mkF m 247 #[rv a, iv v0] [(.long (0 : Int64)), (.int (2 : Int32)), (.int (1 : Int32)), (.ref ab)])) rfl (by rw [hml]; rfl) (argsL := [(.ref ab), (.int (1 : Int32)), (.int (2 : Int32)), (.long (0 : Int64))]) (rest := []) (lenOf pd_3 rfl) rfl (by show 2 * 0 + _ ≤ _; exact Nat.le_of_eq rfl) (hb hby d71m4_247) (fun _ _ => ⟨rfl, e114, Nat.le_of_ble_eq_true rfl, Nat.le_of_ble_eq_true rfl⟩)
  dsimp only [Pt.U, Pt.locs, Pt.cells, Pt.slots] at X115 l115 y115 z115 st115 hQ115
  rw [l115, y115, z115] at X115
  obtain ⟨rfl, N115q, V115, O115q⟩ := hQ115
  have N115 := Fr.app N109 N115q
  have V115v : OView Z n0 T115.heap (oB ab (sj BB (1 : Int32) (0 : Int64)) :: oB ag (sj GG (1 : Int32) (0 : Int64)) :: oP a [(.ref ap), (.ref as), (.ref aq), (.ref ax), (.ref ak), (.int (1 : Int32)), (.ref ag), (.ref ab), (.int (1 : Int32))] :: oA ap (si PP (1 : Int32) v0) :: oA as (si SS (1 : Int32) (0 : Int32)) :: oN aq :: oA ax (si XX (1 : Int32) (0 : Int32)) :: oA ak (si TT (1 : Int32) (-1 : Int32)) :: F) := V115
  have Z115 : n0 ≤ T115.heap.size := V115v.big 0 rfl
  refine OGets.step st115 ?_
  refine OGets.step (fun _ => XS.aloadN X115.here hx rfl (hb hby d71m4_250) rfl rfl) ?_
  refine OGets.step (fun _ => XS.dup X115.here hx rfl (hb hby d71m4_251) rfl rfl) ?_
  obtain ⟨T116, X116, e116, st116⟩ := getF X115 hx hZ hown (host := "") (Or.inl (ow hw 34 rfl)) Via.refl rfl (V115v.fld 2 rfl 8 rfl rfl) (g := (mkF m 252 #[rv a, iv v0] [(.ref a), (.ref a)])) rfl rfl (hb hby d71m4_252)
  refine OGets.step st116 ?_
  refine OGets.step (fun _ => XS.iconst X116.here hx rfl (hb hby d71m4_255)) ?_
  refine OGets.step (fun _ => XS.iadd X116.here hx rfl (hb hby d71m4_256) rfl) ?_
  show OGets p e below _ (T116.setTop (mkF m 257 #[rv a, iv v0] [(.int (2 : Int32)), (.ref a)]))
  obtain ⟨T117, h117, X117, e117, W117, st117⟩ := putF X116 hx hZ hown (host := "") (Or.inl (ow hw 34 rfl)) Via.refl e116 (V115v.fld 2 rfl 8 rfl rfl) (V115v.exa 2 rfl) (Or.inl (ow hw 35 rfl)) (ow hw 2 rfl) (ty := .int) (by decide) rfl rfl (g := (mkF m 257 #[rv a, iv v0] [(.int (2 : Int32)), (.ref a)])) rfl rfl (hb hby d71m4_257)
  have V117 : OView Z n0 h117 (oB ab (sj BB (1 : Int32) (0 : Int64)) :: oB ag (sj GG (1 : Int32) (0 : Int64)) :: oP a [(.ref ap), (.ref as), (.ref aq), (.ref ax), (.ref ak), (.int (1 : Int32)), (.ref ag), (.ref ab), (.int (2 : Int32))] :: oA ap (si PP (1 : Int32) v0) :: oA as (si SS (1 : Int32) (0 : Int32)) :: oN aq :: oA ax (si XX (1 : Int32) (0 : Int32)) :: oA ak (si TT (1 : Int32) (-1 : Int32)) :: F) := V115v.putF 2 rfl 8 rfl W117
  have N117 := Fr.snoc X117 N115 (V115v.old 2 rfl)
  have Z117 : n0 ≤ h117.size := by rw [W117.size]; exact Z115
  have O117 := O115q.wr W117 (V115v.old 2 rfl)
  refine OGets.step st117 ?_
  refine OGets.retV X117 hx hlk Bd.returns (hb hby d71m4_260) (Nat.le_of_ble_eq_true rfl) (Nat.le_of_ble_eq_true rfl) ?_
  have Vp118 : OView Z _ h117 (oP a [(.ref ap), (.ref as), (.ref aq), (.ref ax), (.ref ak), (.int (1 : Int32)), (.ref ag), (.ref ab), (.int (2 : Int32))] :: oA ap (si PP (1 : Int32) v0) :: oA as (si SS (1 : Int32) (0 : Int32)) :: oN aq :: oA ax (si XX (1 : Int32) (0 : Int32)) :: oA ak (si TT (1 : Int32) (-1 : Int32)) :: oB ag (sj GG (1 : Int32) (0 : Int64)) :: oB ab (sj BB (1 : Int32) (0 : Int64)) :: F) := (((((((V117.bring 1 rfl).bring 7 rfl).bring 7 rfl).bring 7 rfl).bring 7 rfl).bring 7 rfl).bring 7 rfl)
  rw [e117]
  exact ⟨rfl, N117, Vp118, O117⟩
theorem ef_rc20 (m : MethodId) (x0 : Int32) (x1 : Int32) (x2 : Int32) : entryFrame m #[(.int x0), (.int x1), (.int x2)] 3 = mkF m 0 #[.val (.int x0), .val (.int x1), .val (.int x2)] [] := by first | (simp [entryFrame, mkF, argsToLocals, Value.category]; done) | rfl
def Q_rc20 (Z : State)  (h0 : Heap) (n0 : Nat) (v : Option Value) (h : Heap) (L : List Loc) : Prop := v = none ∧ L = [] ∧ h = h0
set_option maxRecDepth 65536 in
set_option maxHeartbeats 40000000 in
theorem rm_rc20 (l : Launch) (Z : State) (a0 : Array Value) (hw : ∀ d ∈ tables_1, d.before a0 Z = true) (ws : List Jvm.Cond)  (h0 : Heap) (n0 : Nat) (Z0 : n0 ≤ h0.size) :
    MetFree l (⟨"java/util/Arrays", "rangeCheck", "(III)V"⟩ : MethodName) (head1 (Jvm.Cond.code (⟨"java/util/Arrays", "rangeCheck", "(III)V"⟩ : MethodName) jdk_65_method_30_code 3 none :: ws) ({ frames := 0, cells := 0, slots := 0, locals := 0 } : Room)) (fun a_ U => a_ = #[(.int (32 : Int32)), (.int (0 : Int32)), (.int (2 : Int32))] ∧ Z.Warmed39 U.vm ∧ U.heap = h0) (fun _ _ _ _ _ => True) (fun _ U o U' => ∃ v L, o = .returned v ∧ Q_rc20 Z  h0 n0 v U'.heap L ∧ FrameEnd U o U' L ({ frames := 0, cells := 0, slots := 0, locals := 0 } : Room).cells ({ frames := 0, cells := 0, slots := 0, locals := 0 } : Room).slots) := by
  refine MetFree.of_bodySF (plainFor_of_name pn_1) hisR ?_
  intro p e s m args below meth c s₁ Bd hml0 hP hK
  obtain ⟨rfl, hZ, hh⟩ := hP
  have hx := Bd.exec
  have hby := Bd.bytes
  have hlk : meth.locks = false := Bd.notSynchronized
  have hml : c.maxLocals = 3 := hml0
  have hown : s.vm.findClass "java/util/Arrays" = some m.cls := findClass_of_methodNamed Bd.named
  have hnm := (name_of_methodNamed Bd.named Bd.method).1
  have X0 : Stand p l e ({ frames := 0, cells := 0, slots := 0, locals := 0 } : Room) s m #[(.int (32 : Int32)), (.int (0 : Int32)), (.int (2 : Int32))] below meth c s₁ [] 0 0 := Stand.of_body Bd
  have e0 : s₁.heap = h0 := by rw [← hh, Bd.state]; rfl
  have N0 := Fr.nil n0
  show OGets p e below (OLeaves s (Q_rc20 Z  h0 n0 ) ({ frames := 0, cells := 0, slots := 0, locals := 0 } : Room).cells ({ frames := 0, cells := 0, slots := 0, locals := 0 } : Room).slots) _
  refine OGets.enter (ef_rc20 m (32 : Int32) (0 : Int32) (2 : Int32)) ?_
  show OGets p e below _ (s₁.setTop (mkF m 0 #[iv (32 : Int32), iv (0 : Int32), iv (2 : Int32)] []))
  refine OGets.step (fun _ => XS.iloadN X0.here hx rfl (hb hby dj65m30_0) rfl) ?_
  refine OGets.step (fun _ => XS.iloadN X0.here hx rfl (hb hby dj65m30_1) rfl) ?_
  refine OGets.step (fun _ => XS.icmpYes X0.here hx rfl (pc0 := 2) (pc' := 46) rfl (hb hby dj65m30_2) rfl (flt (by decide : ¬ ((2 : Int32) < (0 : Int32)))).2.2.2 (by decide) (by decide)) ?_
  refine OGets.step (fun _ => XS.iloadN X0.here hx rfl (hb hby dj65m30_46) rfl) ?_
  refine OGets.step (fun _ => XS.ifYes X0.here hx rfl (pc0 := 47) (pc' := 59) rfl (hb hby dj65m30_47) rfl ((if0 _ _).trans (flt (by decide : ¬ ((0 : Int32) < (0 : Int32)))).2.1) (by decide) (by decide)) ?_
  refine OGets.step (fun _ => XS.iloadN X0.here hx rfl (hb hby dj65m30_59) rfl) ?_
  show OGets p e below _ (s₁.setTop (mkF m 60 #[iv (32 : Int32), iv (0 : Int32), iv (2 : Int32)] [(.int (2 : Int32))]))
  refine OGets.step (fun _ => XS.iloadN X0.here hx rfl (hb hby dj65m30_60) rfl) ?_
  refine OGets.step (fun _ => XS.icmpYes X0.here hx rfl (pc0 := 61) (pc' := 73) rfl (hb hby dj65m30_61) rfl (flt (by decide : ¬ ((32 : Int32) < (2 : Int32)))).2.2.2 (by decide) (by decide)) ?_
  refine OGets.retV X0 hx hlk Bd.returns (hb hby dj65m30_73) (Nat.le_of_ble_eq_true rfl) (Nat.le_of_ble_eq_true rfl) ?_
  exact ⟨rfl, rfl, e0⟩
theorem ef_fl20 (m : MethodId) (x0 : Addr) (x1 : Int32) (x2 : Int32) (x3 : Int64) : entryFrame m #[(.ref x0), (.int x1), (.int x2), (.long x3)] 6 = mkF m 0 #[.val (.ref x0), .val (.int x1), .val (.int x2), .val (.long x3), .second, .unset] [] := by first | (simp [entryFrame, mkF, argsToLocals, Value.category]; done) | rfl
def Q_fl20 (Z : State) (g : Addr) (GG : List Int64) (h0 : Heap) (n0 : Nat) (F : List (Addr × OObj)) (v : Option Value) (h : Heap) (L : List Loc) : Prop := v = none ∧ Fr n0 L ∧ OView Z n0 h (oB g (sj (sj GG (0 : Int32) (0 : Int64)) (1 : Int32) (0 : Int64)) :: F) ∧ Old Z n0 h
set_option maxRecDepth 65536 in
set_option maxHeartbeats 40000000 in
theorem rm_fl20 (l : Launch) (Z : State) (a0 : Array Value) (hw : ∀ d ∈ tables_1, d.before a0 Z = true) (ws : List Jvm.Cond) (g : Addr) (GG : List Int64) (h0 : Heap) (n0 : Nat) (F : List (Addr × OObj)) (Z0 : n0 ≤ h0.size) (hlG : GG.length = 32) (V0 : OView Z n0 h0 (oB g GG :: F)) (O0 : Old Z n0 h0) :
    MetFree l (⟨"java/util/Arrays", "fill", "([JIIJ)V"⟩ : MethodName) (head1 (Jvm.Cond.code (⟨"java/util/Arrays", "fill", "([JIIJ)V"⟩ : MethodName) jdk_65_method_102_code 6 none :: ws) ({ frames := 1, cells := 0, slots := 0, locals := 14 } : Room)) (fun a_ U => a_ = #[(.ref g), (.int (0 : Int32)), (.int (2 : Int32)), (.long (0 : Int64))] ∧ Z.Warmed39 U.vm ∧ U.heap = h0) (fun _ _ _ _ _ => True) (fun _ U o U' => ∃ v L, o = .returned v ∧ Q_fl20 Z g GG h0 n0 F v U'.heap L ∧ FrameEnd U o U' L ({ frames := 1, cells := 0, slots := 0, locals := 14 } : Room).cells ({ frames := 1, cells := 0, slots := 0, locals := 14 } : Room).slots) := by
  refine MetFree.of_bodySF (plainFor_of_name pn_1) hisR ?_
  intro p e s m args below meth c s₁ Bd hml0 hP hK
  obtain ⟨rfl, hZ, hh⟩ := hP
  have hx := Bd.exec
  have hby := Bd.bytes
  have hlk : meth.locks = false := Bd.notSynchronized
  have hml : c.maxLocals = 6 := hml0
  have hown : s.vm.findClass "java/util/Arrays" = some m.cls := findClass_of_methodNamed Bd.named
  have hnm := (name_of_methodNamed Bd.named Bd.method).1
  have X0 : Stand p l e ({ frames := 1, cells := 0, slots := 0, locals := 14 } : Room) s m #[(.ref g), (.int (0 : Int32)), (.int (2 : Int32)), (.long (0 : Int64))] below meth c s₁ [] 0 0 := Stand.of_body Bd
  have e0 : s₁.heap = h0 := by rw [← hh, Bd.state]; rfl
  have N0 := Fr.nil n0
  show OGets p e below (OLeaves s (Q_fl20 Z g GG h0 n0 F ) ({ frames := 1, cells := 0, slots := 0, locals := 14 } : Room).cells ({ frames := 1, cells := 0, slots := 0, locals := 14 } : Room).slots) _
  refine OGets.enter (ef_fl20 m g (0 : Int32) (2 : Int32) (0 : Int64)) ?_
  show OGets p e below _ (s₁.setTop (mkF m 0 #[rv g, iv (0 : Int32), iv (2 : Int32), jv (0 : Int64), sv, uv] []))
  refine OGets.step (fun _ => XS.aloadN X0.here hx rfl (hb hby dj65m102_0) rfl rfl) ?_
  obtain ⟨cl122, Ar122, S122⟩ := V0.arr 0 rfl
  have ln122 : cl122.slots.size.toInt32 = (32 : Int32) := by rw [own_len S122]; simp only [List.length_map, si_len, sj_len, List.length_replicate, hlG]; rfl
  refine OGets.step (U' := s₁.setTop (mkF m 2 #[rv g, iv (0 : Int32), iv (2 : Int32), jv (0 : Int64), sv, uv] [(.int (32 : Int32))])) (fun t kt => ?_) ?_
  · refine X0.arraylength hx (by rw [e0]; exact Ar122.1) (State.isArrayOf_alike hZ.alike Ar122.2.1) (g := (mkF m 1 #[rv g, iv (0 : Int32), iv (2 : Int32), jv (0 : Int64), sv, uv] [(.ref g)])) rfl rfl (hb hby dj65m102_1) _ ?_
    rw [ln122]; exact kt
  refine OGets.step (fun _ => XS.iloadN X0.here hx rfl (hb hby dj65m102_2) rfl) ?_
  refine OGets.step (fun _ => XS.iloadN X0.here hx rfl (hb hby dj65m102_3) rfl) ?_
  obtain ⟨_, _, ⟨T123, L123, k123, n123⟩, -, X123, ⟨Lc123, hQ123, l123, y123, z123⟩, st123⟩ := Jvm.LawKit.callS X0 hx (y := (⟨"java/util/Arrays", "rangeCheck", "(III)V"⟩ : MethodName)) hown (mvT hZ (ow hw 40 rfl)) (mvT hZ (ow hw 41 rfl)) (mvT hZ (ow hw 38 rfl)) (mvT hZ (ow hw 42 rfl)) (by decide) (backOf (W := 0) (rm_rc20 l Z a0 hw []  h0 n0  Z0 ) hZ (ow hw 42 rfl) (ow hw 38 rfl) (by decide) (by decide)) (g := (mkF m 4 #[rv g, iv (0 : Int32), iv (2 : Int32), jv (0 : Int64), sv, uv] [(.int (2 : Int32)), (.int (0 : Int32)), (.int (32 : Int32))])) rfl (by rw [hml]; rfl) (argsL := [(.int (32 : Int32)), (.int (0 : Int32)), (.int (2 : Int32))]) (rest := []) (lenOf pd_2 rfl) rfl (by show 2 * 0 + _ ≤ _; exact Nat.le_of_eq rfl) (hb hby dj65m102_4) (fun _ _ => ⟨rfl, e0, Nat.le_of_ble_eq_true rfl, Nat.le_of_ble_eq_true rfl⟩)
  dsimp only [Pt.U, Pt.locs, Pt.cells, Pt.slots] at X123 l123 y123 z123 st123 hQ123
  rw [l123, y123, z123] at X123
  obtain ⟨rfl, rfl, e123⟩ := hQ123
  have N123 := Fr.app N0 (Fr.nil n0)
  refine OGets.step st123 ?_
  refine OGets.step (fun _ => XS.iloadN X123.here hx rfl (hb hby dj65m102_7) rfl) ?_
  refine OGets.step (fun _ => XS.istore X123.here hx rfl (hb hby dj65m102_8) rfl (l' := #[rv g, iv (0 : Int32), iv (2 : Int32), jv (0 : Int64), sv, iv (0 : Int32)]) rfl) ?_
  refine OGets.step (fun _ => XS.iload X123.here hx rfl (hb hby dj65m102_10) rfl) ?_
  refine OGets.step (fun _ => XS.iloadN X123.here hx rfl (hb hby dj65m102_12) rfl) ?_
  refine OGets.step (fun _ => XS.icmpNo X123.here hx rfl (hb hby dj65m102_13) rfl (tlt (by decide : (0 : Int32) < (2 : Int32))).2.1) ?_
  show OGets p e below _ (T123.setTop (mkF m 16 #[rv g, iv (0 : Int32), iv (2 : Int32), jv (0 : Int64), sv, iv (0 : Int32)] []))
  refine OGets.step (fun _ => XS.aloadN X123.here hx rfl (hb hby dj65m102_16) rfl rfl) ?_
  refine OGets.step (fun _ => XS.iload X123.here hx rfl (hb hby dj65m102_17) rfl) ?_
  refine OGets.step (fun _ => XS.lloadN X123.here hx rfl (hb hby dj65m102_19) rfl) ?_
  obtain ⟨cl125, Ar125, S125⟩ := V0.arr 0 rfl
  obtain ⟨T125, h125, X125, e125, W125, st125⟩ := stJ X123 hx hZ e123 Ar125 (j := (0 : Int32)) (own_sin (n := 32) S125 (by simp only [List.length_map, si_len, sj_len, List.length_replicate, hlG]) (by decide)) (g := (mkF m 20 #[rv g, iv (0 : Int32), iv (2 : Int32), jv (0 : Int64), sv, iv (0 : Int32)] [(.long (0 : Int64)), (.int (0 : Int32)), (.ref g)])) rfl rfl (hb hby dj65m102_20)
  have V125 : OView Z n0 h125 (oB g (sj GG (0 : Int32) (0 : Int64)) :: F) := V0.putJ 0 rfl W125
  have N125 := Fr.snoc X125 N123 (V0.old 0 rfl)
  have Z125 : n0 ≤ h125.size := by rw [W125.size]; exact Z0
  have O125 := O0.wr W125 (V0.old 0 rfl)
  refine OGets.step st125 ?_
  refine OGets.step (fun _ => XS.iinc X125.here hx rfl (hb hby dj65m102_21) rfl (l' := #[rv g, iv (0 : Int32), iv (2 : Int32), jv (0 : Int64), sv, iv (1 : Int32)]) rfl) ?_
  refine OGets.step (fun _ => XS.goto X125.here hx rfl (pc0 := 24) (pc' := 10) rfl (hb hby dj65m102_24) (by decide) (by decide)) ?_
  refine OGets.step (fun _ => XS.iload X125.here hx rfl (hb hby dj65m102_10) rfl) ?_
  refine OGets.step (fun _ => XS.iloadN X125.here hx rfl (hb hby dj65m102_12) rfl) ?_
  refine OGets.step (fun _ => XS.icmpNo X125.here hx rfl (hb hby dj65m102_13) rfl (tlt (by decide : (1 : Int32) < (2 : Int32))).2.1) ?_
  show OGets p e below _ (T125.setTop (mkF m 16 #[rv g, iv (0 : Int32), iv (2 : Int32), jv (0 : Int64), sv, iv (1 : Int32)] []))
  refine OGets.step (fun _ => XS.aloadN X125.here hx rfl (hb hby dj65m102_16) rfl rfl) ?_
  refine OGets.step (fun _ => XS.iload X125.here hx rfl (hb hby dj65m102_17) rfl) ?_
  refine OGets.step (fun _ => XS.lloadN X125.here hx rfl (hb hby dj65m102_19) rfl) ?_
  obtain ⟨cl127, Ar127, S127⟩ := V125.arr 0 rfl
  obtain ⟨T127, h127, X127, e127, W127, st127⟩ := stJ X125 hx hZ e125 Ar127 (j := (1 : Int32)) (own_sin (n := 32) S127 (by simp only [List.length_map, si_len, sj_len, List.length_replicate, hlG]) (by decide)) (g := (mkF m 20 #[rv g, iv (0 : Int32), iv (2 : Int32), jv (0 : Int64), sv, iv (1 : Int32)] [(.long (0 : Int64)), (.int (1 : Int32)), (.ref g)])) rfl rfl (hb hby dj65m102_20)
  have V127 : OView Z n0 h127 (oB g (sj (sj GG (0 : Int32) (0 : Int64)) (1 : Int32) (0 : Int64)) :: F) := V125.putJ 0 rfl W127
  have N127 := Fr.snoc X127 N125 (V125.old 0 rfl)
  have Z127 : n0 ≤ h127.size := by rw [W127.size]; exact Z125
  have O127 := O125.wr W127 (V125.old 0 rfl)
  refine OGets.step st127 ?_
  refine OGets.step (fun _ => XS.iinc X127.here hx rfl (hb hby dj65m102_21) rfl (l' := #[rv g, iv (0 : Int32), iv (2 : Int32), jv (0 : Int64), sv, iv (2 : Int32)]) rfl) ?_
  refine OGets.step (fun _ => XS.goto X127.here hx rfl (pc0 := 24) (pc' := 10) rfl (hb hby dj65m102_24) (by decide) (by decide)) ?_
  refine OGets.step (fun _ => XS.iload X127.here hx rfl (hb hby dj65m102_10) rfl) ?_
  refine OGets.step (fun _ => XS.iloadN X127.here hx rfl (hb hby dj65m102_12) rfl) ?_
  refine OGets.step (fun _ => XS.icmpYes X127.here hx rfl (pc0 := 13) (pc' := 27) rfl (hb hby dj65m102_13) rfl (flt (by decide : ¬ ((2 : Int32) < (2 : Int32)))).2.1 (by decide) (by decide)) ?_
  show OGets p e below _ (T127.setTop (mkF m 27 #[rv g, iv (0 : Int32), iv (2 : Int32), jv (0 : Int64), sv, iv (2 : Int32)] []))
  refine OGets.retV X127 hx hlk Bd.returns (hb hby dj65m102_27) (Nat.le_of_ble_eq_true rfl) (Nat.le_of_ble_eq_true rfl) ?_
  rw [e127]
  exact ⟨rfl, N127, V127, O127⟩
theorem ef_add20 (m : MethodId) (x0 : Addr) (x1 : Int32) : entryFrame m #[(.ref x0), (.int x1)] 2 = mkF m 0 #[.val (.ref x0), .val (.int x1)] [] := by first | (simp [entryFrame, mkF, argsToLocals, Value.category]; done) | rfl
def Q_add20 (Z : State) (a : Addr) (ap : Addr) (as : Addr) (aq : Addr) (ax : Addr) (ak : Addr) (ag : Addr) (ab : Addr) (v0 : Int32) (PP : List Int32) (SS : List Int32) (XX : List Int32) (TT : List Int32) (GG : List Int64) (BB : List Int64) (h0 : Heap) (n0 : Nat) (F : List (Addr × OObj)) (v : Option Value) (h : Heap) (L : List Loc) : Prop := v = none ∧ Fr n0 L ∧ OView Z n0 h (oP a [(.ref ap), (.ref as), (.ref aq), (.ref ax), (.ref ak), (.int (2 : Int32)), (.ref ag), (.ref ab), (.int (1 : Int32))] :: oA ap (si PP (0 : Int32) v0) :: oA as (si SS (0 : Int32) (0 : Int32)) :: oN aq :: oA ax (si XX (0 : Int32) (0 : Int32)) :: oA ak (si TT (0 : Int32) (-1 : Int32)) :: oB ag (sj (sj GG (0 : Int32) (0 : Int64)) (1 : Int32) (0 : Int64)) :: oB ab (sj (sj BB (0 : Int32) (0 : Int64)) (1 : Int32) (0 : Int64)) :: F) ∧ Old Z n0 h
set_option maxRecDepth 65536 in
set_option maxHeartbeats 40000000 in
theorem rm_add20 (l : Launch) (Z : State) (a0 : Array Value) (hw : ∀ d ∈ tables_1, d.before a0 Z = true) (ws : List Jvm.Cond) (a : Addr) (ap : Addr) (as : Addr) (aq : Addr) (ax : Addr) (ak : Addr) (ag : Addr) (ab : Addr) (v0 : Int32) (PP : List Int32) (SS : List Int32) (XX : List Int32) (TT : List Int32) (GG : List Int64) (BB : List Int64) (h0 : Heap) (n0 : Nat) (F : List (Addr × OObj)) (Z0 : n0 ≤ h0.size) (hlP : PP.length = 16) (hlS : SS.length = 16) (hlX : XX.length = 16) (hlT : TT.length = 16) (hlG : GG.length = 32) (hlB : BB.length = 32) (V0 : OView Z n0 h0 (oP a [(.ref ap), (.ref as), (.ref aq), (.ref ax), (.ref ak), (.int (2 : Int32)), (.ref ag), (.ref ab), (.int (0 : Int32))] :: oA ap PP :: oA as SS :: oN aq :: oA ax XX :: oA ak TT :: oB ag GG :: oB ab BB :: F)) (O0 : Old Z n0 h0) :
    MetFree l (⟨"com/example/inya/inya/SearchPath", "add", "(I)V"⟩ : MethodName) (head1 (Jvm.Cond.code (⟨"com/example/inya/inya/SearchPath", "add", "(I)V"⟩ : MethodName) prog_71_method_4_code 2 none :: ws) ({ frames := 2, cells := 0, slots := 0, locals := 31 } : Room)) (fun a_ U => a_ = #[(.ref a), (.int v0)] ∧ Z.Warmed39 U.vm ∧ U.heap = h0) (fun _ _ _ _ _ => True) (fun _ U o U' => ∃ v L, o = .returned v ∧ Q_add20 Z a ap as aq ax ak ag ab v0 PP SS XX TT GG BB h0 n0 F v U'.heap L ∧ FrameEnd U o U' L ({ frames := 2, cells := 0, slots := 0, locals := 31 } : Room).cells ({ frames := 2, cells := 0, slots := 0, locals := 31 } : Room).slots) := by
  refine MetFree.of_bodySF (plainFor_of_name pn_0) hisR ?_
  intro p e s m args below meth c s₁ Bd hml0 hP hK
  obtain ⟨rfl, hZ, hh⟩ := hP
  have hx := Bd.exec
  have hby := Bd.bytes
  have hlk : meth.locks = false := Bd.notSynchronized
  have hml : c.maxLocals = 2 := hml0
  have hown : s.vm.findClass "com/example/inya/inya/SearchPath" = some m.cls := findClass_of_methodNamed Bd.named
  have hnm := (name_of_methodNamed Bd.named Bd.method).1
  have X0 : Stand p l e ({ frames := 2, cells := 0, slots := 0, locals := 31 } : Room) s m #[(.ref a), (.int v0)] below meth c s₁ [] 0 0 := Stand.of_body Bd
  have e0 : s₁.heap = h0 := by rw [← hh, Bd.state]; rfl
  have N0 := Fr.nil n0
  show OGets p e below (OLeaves s (Q_add20 Z a ap as aq ax ak ag ab v0 PP SS XX TT GG BB h0 n0 F ) ({ frames := 2, cells := 0, slots := 0, locals := 31 } : Room).cells ({ frames := 2, cells := 0, slots := 0, locals := 31 } : Room).slots) _
  refine OGets.enter (ef_add20 m a v0) ?_
  show OGets p e below _ (s₁.setTop (mkF m 0 #[rv a, iv v0] []))
  refine OGets.step (fun _ => XS.aloadN X0.here hx rfl (hb hby d71m4_0) rfl rfl) ?_
  obtain ⟨T129, X129, e129, st129⟩ := getF X0 hx hZ hown (host := "") (Or.inl (ow hw 34 rfl)) Via.refl e0 (V0.fld 0 rfl 8 rfl rfl) (g := (mkF m 1 #[rv a, iv v0] [(.ref a)])) rfl rfl (hb hby d71m4_1)
  refine OGets.step st129 ?_
  refine OGets.step (fun _ => XS.aloadN X129.here hx rfl (hb hby d71m4_4) rfl rfl) ?_
  obtain ⟨T130, X130, e130, st130⟩ := getF X129 hx hZ hown (host := "") (Or.inl (ow hw 11 rfl)) Via.refl e129 (V0.fld 0 rfl 0 rfl rfl) (g := (mkF m 5 #[rv a, iv v0] [(.ref a), (.int (0 : Int32))])) rfl rfl (hb hby d71m4_5)
  refine OGets.step st130 ?_
  obtain ⟨cl131, Ar131, S131⟩ := V0.arr 1 rfl
  have ln131 : cl131.slots.size.toInt32 = (16 : Int32) := by rw [own_len S131]; simp only [List.length_map, si_len, sj_len, List.length_replicate, hlP]; rfl
  refine OGets.step (U' := T130.setTop (mkF m 9 #[rv a, iv v0] [(.int (16 : Int32)), (.int (0 : Int32))])) (fun t kt => ?_) ?_
  · refine X130.arraylength hx (by rw [e130]; exact Ar131.1) (State.isArrayOf_alike hZ.alike Ar131.2.1) (g := (mkF m 8 #[rv a, iv v0] [(.ref ap), (.int (0 : Int32))])) rfl rfl (hb hby d71m4_8) _ ?_
    rw [ln131]; exact kt
  refine OGets.step (fun _ => XS.icmpYes X130.here hx rfl (pc0 := 9) (pc' := 144) rfl (hb hby d71m4_9) rfl (feq (by decide : ¬ ((0 : Int32) = (16 : Int32)))).2 (by decide) (by decide)) ?_
  refine OGets.step (fun _ => XS.aloadN X130.here hx rfl (hb hby d71m4_144) rfl rfl) ?_
  obtain ⟨T133, X133, e133, st133⟩ := getF X130 hx hZ hown (host := "") (Or.inl (ow hw 11 rfl)) Via.refl e130 (V0.fld 0 rfl 0 rfl rfl) (g := (mkF m 145 #[rv a, iv v0] [(.ref a)])) rfl rfl (hb hby d71m4_145)
  refine OGets.step st133 ?_
  refine OGets.step (fun _ => XS.aloadN X133.here hx rfl (hb hby d71m4_148) rfl rfl) ?_
  obtain ⟨T134, X134, e134, st134⟩ := getF X133 hx hZ hown (host := "") (Or.inl (ow hw 34 rfl)) Via.refl e133 (V0.fld 0 rfl 8 rfl rfl) (g := (mkF m 149 #[rv a, iv v0] [(.ref a), (.ref ap)])) rfl rfl (hb hby d71m4_149)
  refine OGets.step st134 ?_
  refine OGets.step (fun _ => XS.iloadN X134.here hx rfl (hb hby d71m4_152) rfl) ?_
  obtain ⟨cl135, Ar135, S135⟩ := V0.arr 1 rfl
  obtain ⟨T135, h135, X135, e135, W135, st135⟩ := stI X134 hx hZ e134 Ar135 (j := (0 : Int32)) (own_sin (n := 16) S135 (by simp only [List.length_map, si_len, sj_len, List.length_replicate, hlP]) (by decide)) (g := (mkF m 153 #[rv a, iv v0] [(.int v0), (.int (0 : Int32)), (.ref ap)])) rfl rfl (hb hby d71m4_153)
  have V135 : OView Z n0 h135 (oP a [(.ref ap), (.ref as), (.ref aq), (.ref ax), (.ref ak), (.int (2 : Int32)), (.ref ag), (.ref ab), (.int (0 : Int32))] :: oA ap (si PP (0 : Int32) v0) :: oA as SS :: oN aq :: oA ax XX :: oA ak TT :: oB ag GG :: oB ab BB :: F) := V0.putI 1 rfl W135
  have N135 := Fr.snoc X135 N0 (V0.old 1 rfl)
  have Z135 : n0 ≤ h135.size := by rw [W135.size]; exact Z0
  have O135 := O0.wr W135 (V0.old 1 rfl)
  refine OGets.step st135 ?_
  refine OGets.step (fun _ => XS.aloadN X135.here hx rfl (hb hby d71m4_154) rfl rfl) ?_
  obtain ⟨T136, X136, e136, st136⟩ := getF X135 hx hZ hown (host := "") (Or.inl (ow hw 13 rfl)) Via.refl e135 (V135.fld 0 rfl 1 rfl rfl) (g := (mkF m 155 #[rv a, iv v0] [(.ref a)])) rfl rfl (hb hby d71m4_155)
  refine OGets.step st136 ?_
  refine OGets.step (fun _ => XS.aloadN X136.here hx rfl (hb hby d71m4_158) rfl rfl) ?_
  obtain ⟨T137, X137, e137, st137⟩ := getF X136 hx hZ hown (host := "") (Or.inl (ow hw 34 rfl)) Via.refl e136 (V135.fld 0 rfl 8 rfl rfl) (g := (mkF m 159 #[rv a, iv v0] [(.ref a), (.ref as)])) rfl rfl (hb hby d71m4_159)
  refine OGets.step st137 ?_
  refine OGets.step (fun _ => XS.iconst X137.here hx rfl (hb hby d71m4_162)) ?_
  obtain ⟨cl138, Ar138, S138⟩ := V135.arr 2 rfl
  obtain ⟨T138, h138, X138, e138, W138, st138⟩ := stI X137 hx hZ e137 Ar138 (j := (0 : Int32)) (own_sin (n := 16) S138 (by simp only [List.length_map, si_len, sj_len, List.length_replicate, hlS]) (by decide)) (g := (mkF m 163 #[rv a, iv v0] [(.int (0 : Int32)), (.int (0 : Int32)), (.ref as)])) rfl rfl (hb hby d71m4_163)
  have V138 : OView Z n0 h138 (oP a [(.ref ap), (.ref as), (.ref aq), (.ref ax), (.ref ak), (.int (2 : Int32)), (.ref ag), (.ref ab), (.int (0 : Int32))] :: oA ap (si PP (0 : Int32) v0) :: oA as (si SS (0 : Int32) (0 : Int32)) :: oN aq :: oA ax XX :: oA ak TT :: oB ag GG :: oB ab BB :: F) := V135.putI 2 rfl W138
  have N138 := Fr.snoc X138 N135 (V135.old 2 rfl)
  have Z138 : n0 ≤ h138.size := by rw [W138.size]; exact Z135
  have O138 := O135.wr W138 (V135.old 2 rfl)
  refine OGets.step st138 ?_
  refine OGets.step (fun _ => XS.aloadN X138.here hx rfl (hb hby d71m4_164) rfl rfl) ?_
  obtain ⟨T139, X139, e139, st139⟩ := getF X138 hx hZ hown (host := "") (Or.inl (ow hw 17 rfl)) Via.refl e138 (V138.fld 0 rfl 2 rfl rfl) (g := (mkF m 165 #[rv a, iv v0] [(.ref a)])) rfl rfl (hb hby d71m4_165)
  refine OGets.step st139 ?_
  refine OGets.step (fun _ => XS.aloadN X139.here hx rfl (hb hby d71m4_168) rfl rfl) ?_
  obtain ⟨T140, X140, e140, st140⟩ := getF X139 hx hZ hown (host := "") (Or.inl (ow hw 34 rfl)) Via.refl e139 (V138.fld 0 rfl 8 rfl rfl) (g := (mkF m 169 #[rv a, iv v0] [(.ref a), (.ref aq)])) rfl rfl (hb hby d71m4_169)
  refine OGets.step st140 ?_
  refine OGets.step (fun _ => XS.aconstNull X140.here hx rfl (hb hby d71m4_172)) ?_
  obtain ⟨cl141, Ar141, S141⟩ := V138.arr 3 rfl
  obtain ⟨T141, h141, X141, e141, W141', st141⟩ := stR X140 hx hZ e140 Ar141 (j := (0 : Int32)) (own_inb S141 0 (by decide) (Nat.le_of_ble_eq_true rfl)) rfl (Or.inl rfl) (g := (mkF m 173 #[rv a, iv v0] [.null, (.int (0 : Int32)), (.ref aq)])) rfl rfl (hb hby d71m4_173)
  have W141 := own_wr (vs := []) 0 (by decide) W141'
  have V141 : OView Z n0 h141 (oP a [(.ref ap), (.ref as), (.ref aq), (.ref ax), (.ref ak), (.int (2 : Int32)), (.ref ag), (.ref ab), (.int (0 : Int32))] :: oA ap (si PP (0 : Int32) v0) :: oA as (si SS (0 : Int32) (0 : Int32)) :: oN aq :: oA ax XX :: oA ak TT :: oB ag GG :: oB ab BB :: F) := V138.putA 3 rfl W141
  have N141 := Fr.snoc X141 N138 (V138.old 3 rfl)
  have Z141 : n0 ≤ h141.size := by rw [W141.size]; exact Z138
  have O141 := O138.wr W141 (V138.old 3 rfl)
  refine OGets.step st141 ?_
  refine OGets.step (fun _ => XS.aloadN X141.here hx rfl (hb hby d71m4_174) rfl rfl) ?_
  obtain ⟨T142, X142, e142, st142⟩ := getF X141 hx hZ hown (host := "") (Or.inl (ow hw 19 rfl)) Via.refl e141 (V141.fld 0 rfl 3 rfl rfl) (g := (mkF m 175 #[rv a, iv v0] [(.ref a)])) rfl rfl (hb hby d71m4_175)
  refine OGets.step st142 ?_
  refine OGets.step (fun _ => XS.aloadN X142.here hx rfl (hb hby d71m4_178) rfl rfl) ?_
  obtain ⟨T143, X143, e143, st143⟩ := getF X142 hx hZ hown (host := "") (Or.inl (ow hw 34 rfl)) Via.refl e142 (V141.fld 0 rfl 8 rfl rfl) (g := (mkF m 179 #[rv a, iv v0] [(.ref a), (.ref ax)])) rfl rfl (hb hby d71m4_179)
  refine OGets.step st143 ?_
  refine OGets.step (fun _ => XS.iconst X143.here hx rfl (hb hby d71m4_182)) ?_
  obtain ⟨cl144, Ar144, S144⟩ := V141.arr 4 rfl
  obtain ⟨T144, h144, X144, e144, W144, st144⟩ := stI X143 hx hZ e143 Ar144 (j := (0 : Int32)) (own_sin (n := 16) S144 (by simp only [List.length_map, si_len, sj_len, List.length_replicate, hlX]) (by decide)) (g := (mkF m 183 #[rv a, iv v0] [(.int (0 : Int32)), (.int (0 : Int32)), (.ref ax)])) rfl rfl (hb hby d71m4_183)
  have V144 : OView Z n0 h144 (oP a [(.ref ap), (.ref as), (.ref aq), (.ref ax), (.ref ak), (.int (2 : Int32)), (.ref ag), (.ref ab), (.int (0 : Int32))] :: oA ap (si PP (0 : Int32) v0) :: oA as (si SS (0 : Int32) (0 : Int32)) :: oN aq :: oA ax (si XX (0 : Int32) (0 : Int32)) :: oA ak TT :: oB ag GG :: oB ab BB :: F) := V141.putI 4 rfl W144
  have N144 := Fr.snoc X144 N141 (V141.old 4 rfl)
  have Z144 : n0 ≤ h144.size := by rw [W144.size]; exact Z141
  have O144 := O141.wr W144 (V141.old 4 rfl)
  refine OGets.step st144 ?_
  refine OGets.step (fun _ => XS.aloadN X144.here hx rfl (hb hby d71m4_184) rfl rfl) ?_
  obtain ⟨T145, X145, e145, st145⟩ := getF X144 hx hZ hown (host := "") (Or.inl (ow hw 21 rfl)) Via.refl e144 (V144.fld 0 rfl 4 rfl rfl) (g := (mkF m 185 #[rv a, iv v0] [(.ref a)])) rfl rfl (hb hby d71m4_185)
  refine OGets.step st145 ?_
  refine OGets.step (fun _ => XS.aloadN X145.here hx rfl (hb hby d71m4_188) rfl rfl) ?_
  obtain ⟨T146, X146, e146, st146⟩ := getF X145 hx hZ hown (host := "") (Or.inl (ow hw 34 rfl)) Via.refl e145 (V144.fld 0 rfl 8 rfl rfl) (g := (mkF m 189 #[rv a, iv v0] [(.ref a), (.ref ak)])) rfl rfl (hb hby d71m4_189)
  refine OGets.step st146 ?_
  refine OGets.step (fun _ => XS.iconst X146.here hx rfl (hb hby d71m4_192)) ?_
  obtain ⟨cl147, Ar147, S147⟩ := V144.arr 5 rfl
  obtain ⟨T147, h147, X147, e147, W147, st147⟩ := stI X146 hx hZ e146 Ar147 (j := (0 : Int32)) (own_sin (n := 16) S147 (by simp only [List.length_map, si_len, sj_len, List.length_replicate, hlT]) (by decide)) (g := (mkF m 193 #[rv a, iv v0] [(.int (-1 : Int32)), (.int (0 : Int32)), (.ref ak)])) rfl rfl (hb hby d71m4_193)
  have V147 : OView Z n0 h147 (oP a [(.ref ap), (.ref as), (.ref aq), (.ref ax), (.ref ak), (.int (2 : Int32)), (.ref ag), (.ref ab), (.int (0 : Int32))] :: oA ap (si PP (0 : Int32) v0) :: oA as (si SS (0 : Int32) (0 : Int32)) :: oN aq :: oA ax (si XX (0 : Int32) (0 : Int32)) :: oA ak (si TT (0 : Int32) (-1 : Int32)) :: oB ag GG :: oB ab BB :: F) := V144.putI 5 rfl W147
  have N147 := Fr.snoc X147 N144 (V144.old 5 rfl)
  have Z147 : n0 ≤ h147.size := by rw [W147.size]; exact Z144
  have O147 := O144.wr W147 (V144.old 5 rfl)
  refine OGets.step st147 ?_
  refine OGets.step (fun _ => XS.aloadN X147.here hx rfl (hb hby d71m4_194) rfl rfl) ?_
  obtain ⟨T148, X148, e148, st148⟩ := getF X147 hx hZ hown (host := "") (Or.inl (ow hw 25 rfl)) Via.refl e147 (V147.fld 0 rfl 6 rfl rfl) (g := (mkF m 195 #[rv a, iv v0] [(.ref a)])) rfl rfl (hb hby d71m4_195)
  refine OGets.step st148 ?_
  refine OGets.step (fun _ => XS.aloadN X148.here hx rfl (hb hby d71m4_198) rfl rfl) ?_
  obtain ⟨T149, X149, e149, st149⟩ := getF X148 hx hZ hown (host := "") (Or.inl (ow hw 34 rfl)) Via.refl e148 (V147.fld 0 rfl 8 rfl rfl) (g := (mkF m 199 #[rv a, iv v0] [(.ref a), (.ref ag)])) rfl rfl (hb hby d71m4_199)
  refine OGets.step st149 ?_
  refine OGets.step (fun _ => XS.aloadN X149.here hx rfl (hb hby d71m4_202) rfl rfl) ?_
  obtain ⟨T150, X150, e150, st150⟩ := getF X149 hx hZ hown (host := "") (Or.inl (ow hw 23 rfl)) Via.refl e149 (V147.fld 0 rfl 5 rfl rfl) (g := (mkF m 203 #[rv a, iv v0] [(.ref a), (.int (0 : Int32)), (.ref ag)])) rfl rfl (hb hby d71m4_203)
  refine OGets.step st150 ?_
  refine OGets.step (fun _ => XS.imul X150.here hx rfl (hb hby d71m4_206) rfl) ?_
  show OGets p e below _ (T150.setTop (mkF m 207 #[rv a, iv v0] [(.int (0 : Int32)), (.ref ag)]))
  refine OGets.step (fun _ => XS.aloadN X150.here hx rfl (hb hby d71m4_207) rfl rfl) ?_
  obtain ⟨T151, X151, e151, st151⟩ := getF X150 hx hZ hown (host := "") (Or.inl (ow hw 34 rfl)) Via.refl e150 (V147.fld 0 rfl 8 rfl rfl) (g := (mkF m 208 #[rv a, iv v0] [(.ref a), (.int (0 : Int32)), (.ref ag)])) rfl rfl (hb hby d71m4_208)
  refine OGets.step st151 ?_
  refine OGets.step (fun _ => XS.iconst X151.here hx rfl (hb hby d71m4_211)) ?_
  refine OGets.step (fun _ => XS.iadd X151.here hx rfl (hb hby d71m4_212) rfl) ?_
  show OGets p e below _ (T151.setTop (mkF m 213 #[rv a, iv v0] [(.int (1 : Int32)), (.int (0 : Int32)), (.ref ag)]))
  refine OGets.step (fun _ => XS.aloadN X151.here hx rfl (hb hby d71m4_213) rfl rfl) ?_
  obtain ⟨T152, X152, e152, st152⟩ := getF X151 hx hZ hown (host := "") (Or.inl (ow hw 23 rfl)) Via.refl e151 (V147.fld 0 rfl 5 rfl rfl) (g := (mkF m 214 #[rv a, iv v0] [(.ref a), (.int (1 : Int32)), (.int (0 : Int32)), (.ref ag)])) rfl rfl (hb hby d71m4_214)
  refine OGets.step st152 ?_
  refine OGets.step (fun _ => XS.imul X152.here hx rfl (hb hby d71m4_217) rfl) ?_
  show OGets p e below _ (T152.setTop (mkF m 218 #[rv a, iv v0] [(.int (2 : Int32)), (.int (0 : Int32)), (.ref ag)]))
  refine OGets.step (fun _ => XS.lconst X152.here hx rfl (hb hby d71m4_218)) ?_
  have V153_ : OView Z _ h147 (oB ag GG :: oP a [(.ref ap), (.ref as), (.ref aq), (.ref ax), (.ref ak), (.int (2 : Int32)), (.ref ag), (.ref ab), (.int (0 : Int32))] :: oA ap (si PP (0 : Int32) v0) :: oA as (si SS (0 : Int32) (0 : Int32)) :: oN aq :: oA ax (si XX (0 : Int32) (0 : Int32)) :: oA ak (si TT (0 : Int32) (-1 : Int32)) :: oB ab BB :: F) := (V147.bring 6 rfl)
  obtain ⟨_, _, ⟨T153, L153, k153, n153⟩, -, X153, ⟨Lc153, hQ153, l153, y153, z153⟩, st153⟩ := Jvm.LawKit.callS X152 hx (y := (⟨"java/util/Arrays", "fill", "([JIIJ)V"⟩ : MethodName)) hown (mvT hZ (ow hw 36 rfl)) (mvT hZ (ow hw 37 rfl)) (mvT hZ (ow hw 38 rfl)) (mvT hZ (ow hw 39 rfl)) (by decide) (backOf (W := 0) (rm_fl20 l Z a0 hw [] ag GG h147 n0 _ Z147 (by simp only [sj_len, List.length_replicate, hlG]) V153_ O147) hZ (ow hw 39 rfl) (ow hw 38 rfl) (by decide) (by decide)) (g := (mkF m 219 #[rv a, iv v0] [(.long (0 : Int64)), (.int (2 : Int32)), (.int (0 : Int32)), (.ref ag)])) rfl (by rw [hml]; rfl) (argsL := [(.ref ag), (.int (0 : Int32)), (.int (2 : Int32)), (.long (0 : Int64))]) (rest := []) (lenOf pd_3 rfl) rfl (by show 2 * 0 + _ ≤ _; exact Nat.le_of_eq rfl) (hb hby d71m4_219) (fun _ _ => ⟨rfl, e152, Nat.le_of_ble_eq_true rfl, Nat.le_of_ble_eq_true rfl⟩)
  dsimp only [Pt.U, Pt.locs, Pt.cells, Pt.slots] at X153 l153 y153 z153 st153 hQ153
  rw [l153, y153, z153] at X153
  obtain ⟨rfl, N153q, V153, O153q⟩ := hQ153
  have N153 := Fr.app N147 N153q
  have V153v : OView Z n0 T153.heap (oB ag (sj (sj GG (0 : Int32) (0 : Int64)) (1 : Int32) (0 : Int64)) :: oP a [(.ref ap), (.ref as), (.ref aq), (.ref ax), (.ref ak), (.int (2 : Int32)), (.ref ag), (.ref ab), (.int (0 : Int32))] :: oA ap (si PP (0 : Int32) v0) :: oA as (si SS (0 : Int32) (0 : Int32)) :: oN aq :: oA ax (si XX (0 : Int32) (0 : Int32)) :: oA ak (si TT (0 : Int32) (-1 : Int32)) :: oB ab BB :: F) := V153
  have Z153 : n0 ≤ T153.heap.size := V153v.big 0 rfl
  refine OGets.step st153 ?_
  refine OGets.step (fun _ => XS.aloadN X153.here hx rfl (hb hby d71m4_222) rfl rfl) ?_
  obtain ⟨T154, X154, e154, st154⟩ := getF X153 hx hZ hown (host := "") (Or.inl (ow hw 27 rfl)) Via.refl rfl (V153v.fld 1 rfl 7 rfl rfl) (g := (mkF m 223 #[rv a, iv v0] [(.ref a)])) rfl rfl (hb hby d71m4_223)
  refine OGets.step st154 ?_
  refine OGets.step (fun _ => XS.aloadN X154.here hx rfl (hb hby d71m4_226) rfl rfl) ?_
  obtain ⟨T155, X155, e155, st155⟩ := getF X154 hx hZ hown (host := "") (Or.inl (ow hw 34 rfl)) Via.refl e154 (V153v.fld 1 rfl 8 rfl rfl) (g := (mkF m 227 #[rv a, iv v0] [(.ref a), (.ref ab)])) rfl rfl (hb hby d71m4_227)
  refine OGets.step st155 ?_
  refine OGets.step (fun _ => XS.aloadN X155.here hx rfl (hb hby d71m4_230) rfl rfl) ?_
  obtain ⟨T156, X156, e156, st156⟩ := getF X155 hx hZ hown (host := "") (Or.inl (ow hw 23 rfl)) Via.refl e155 (V153v.fld 1 rfl 5 rfl rfl) (g := (mkF m 231 #[rv a, iv v0] [(.ref a), (.int (0 : Int32)), (.ref ab)])) rfl rfl (hb hby d71m4_231)
  refine OGets.step st156 ?_
  refine OGets.step (fun _ => XS.imul X156.here hx rfl (hb hby d71m4_234) rfl) ?_
  show OGets p e below _ (T156.setTop (mkF m 235 #[rv a, iv v0] [(.int (0 : Int32)), (.ref ab)]))
  refine OGets.step (fun _ => XS.aloadN X156.here hx rfl (hb hby d71m4_235) rfl rfl) ?_
  obtain ⟨T157, X157, e157, st157⟩ := getF X156 hx hZ hown (host := "") (Or.inl (ow hw 34 rfl)) Via.refl e156 (V153v.fld 1 rfl 8 rfl rfl) (g := (mkF m 236 #[rv a, iv v0] [(.ref a), (.int (0 : Int32)), (.ref ab)])) rfl rfl (hb hby d71m4_236)
  refine OGets.step st157 ?_
  refine OGets.step (fun _ => XS.iconst X157.here hx rfl (hb hby d71m4_239)) ?_
  refine OGets.step (fun _ => XS.iadd X157.here hx rfl (hb hby d71m4_240) rfl) ?_
  show OGets p e below _ (T157.setTop (mkF m 241 #[rv a, iv v0] [(.int (1 : Int32)), (.int (0 : Int32)), (.ref ab)]))
  refine OGets.step (fun _ => XS.aloadN X157.here hx rfl (hb hby d71m4_241) rfl rfl) ?_
  obtain ⟨T158, X158, e158, st158⟩ := getF X157 hx hZ hown (host := "") (Or.inl (ow hw 23 rfl)) Via.refl e157 (V153v.fld 1 rfl 5 rfl rfl) (g := (mkF m 242 #[rv a, iv v0] [(.ref a), (.int (1 : Int32)), (.int (0 : Int32)), (.ref ab)])) rfl rfl (hb hby d71m4_242)
  refine OGets.step st158 ?_
  refine OGets.step (fun _ => XS.imul X158.here hx rfl (hb hby d71m4_245) rfl) ?_
  show OGets p e below _ (T158.setTop (mkF m 246 #[rv a, iv v0] [(.int (2 : Int32)), (.int (0 : Int32)), (.ref ab)]))
  refine OGets.step (fun _ => XS.lconst X158.here hx rfl (hb hby d71m4_246)) ?_
  have V159_ : OView Z _ T153.heap (oB ab BB :: oB ag (sj (sj GG (0 : Int32) (0 : Int64)) (1 : Int32) (0 : Int64)) :: oP a [(.ref ap), (.ref as), (.ref aq), (.ref ax), (.ref ak), (.int (2 : Int32)), (.ref ag), (.ref ab), (.int (0 : Int32))] :: oA ap (si PP (0 : Int32) v0) :: oA as (si SS (0 : Int32) (0 : Int32)) :: oN aq :: oA ax (si XX (0 : Int32) (0 : Int32)) :: oA ak (si TT (0 : Int32) (-1 : Int32)) :: F) := (V153v.bring 7 rfl)
  obtain ⟨_, _, ⟨T159, L159, k159, n159⟩, -, X159, ⟨Lc159, hQ159, l159, y159, z159⟩, st159⟩ := Jvm.LawKit.callS X158 hx (y := (⟨"java/util/Arrays", "fill", "([JIIJ)V"⟩ : MethodName)) hown (mvT hZ (ow hw 36 rfl)) (mvT hZ (ow hw 37 rfl)) (mvT hZ (ow hw 38 rfl)) (mvT hZ (ow hw 39 rfl)) (by decide) (backOf (W := 0) (rm_fl20 l Z a0 hw [] ab BB T153.heap n0 _ Z153 (by simp only [sj_len, List.length_replicate, hlB]) V159_ O153q) hZ (ow hw 39 rfl) (ow hw 38 rfl) (by decide) (by decide)) (g := (mkF m 247 #[rv a, iv v0] [(.long (0 : Int64)), (.int (2 : Int32)), (.int (0 : Int32)), (.ref ab)])) rfl (by rw [hml]; rfl) (argsL := [(.ref ab), (.int (0 : Int32)), (.int (2 : Int32)), (.long (0 : Int64))]) (rest := []) (lenOf pd_3 rfl) rfl (by show 2 * 0 + _ ≤ _; exact Nat.le_of_eq rfl) (hb hby d71m4_247) (fun _ _ => ⟨rfl, e158, Nat.le_of_ble_eq_true rfl, Nat.le_of_ble_eq_true rfl⟩)
  dsimp only [Pt.U, Pt.locs, Pt.cells, Pt.slots] at X159 l159 y159 z159 st159 hQ159
  rw [l159, y159, z159] at X159
  obtain ⟨rfl, N159q, V159, O159q⟩ := hQ159
  have N159 := Fr.app N153 N159q
  have V159v : OView Z n0 T159.heap (oB ab (sj (sj BB (0 : Int32) (0 : Int64)) (1 : Int32) (0 : Int64)) :: oB ag (sj (sj GG (0 : Int32) (0 : Int64)) (1 : Int32) (0 : Int64)) :: oP a [(.ref ap), (.ref as), (.ref aq), (.ref ax), (.ref ak), (.int (2 : Int32)), (.ref ag), (.ref ab), (.int (0 : Int32))] :: oA ap (si PP (0 : Int32) v0) :: oA as (si SS (0 : Int32) (0 : Int32)) :: oN aq :: oA ax (si XX (0 : Int32) (0 : Int32)) :: oA ak (si TT (0 : Int32) (-1 : Int32)) :: F) := V159
  have Z159 : n0 ≤ T159.heap.size := V159v.big 0 rfl
  refine OGets.step st159 ?_
  refine OGets.step (fun _ => XS.aloadN X159.here hx rfl (hb hby d71m4_250) rfl rfl) ?_
  refine OGets.step (fun _ => XS.dup X159.here hx rfl (hb hby d71m4_251) rfl rfl) ?_
  obtain ⟨T160, X160, e160, st160⟩ := getF X159 hx hZ hown (host := "") (Or.inl (ow hw 34 rfl)) Via.refl rfl (V159v.fld 2 rfl 8 rfl rfl) (g := (mkF m 252 #[rv a, iv v0] [(.ref a), (.ref a)])) rfl rfl (hb hby d71m4_252)
  refine OGets.step st160 ?_
  refine OGets.step (fun _ => XS.iconst X160.here hx rfl (hb hby d71m4_255)) ?_
  refine OGets.step (fun _ => XS.iadd X160.here hx rfl (hb hby d71m4_256) rfl) ?_
  show OGets p e below _ (T160.setTop (mkF m 257 #[rv a, iv v0] [(.int (1 : Int32)), (.ref a)]))
  obtain ⟨T161, h161, X161, e161, W161, st161⟩ := putF X160 hx hZ hown (host := "") (Or.inl (ow hw 34 rfl)) Via.refl e160 (V159v.fld 2 rfl 8 rfl rfl) (V159v.exa 2 rfl) (Or.inl (ow hw 35 rfl)) (ow hw 2 rfl) (ty := .int) (by decide) rfl rfl (g := (mkF m 257 #[rv a, iv v0] [(.int (1 : Int32)), (.ref a)])) rfl rfl (hb hby d71m4_257)
  have V161 : OView Z n0 h161 (oB ab (sj (sj BB (0 : Int32) (0 : Int64)) (1 : Int32) (0 : Int64)) :: oB ag (sj (sj GG (0 : Int32) (0 : Int64)) (1 : Int32) (0 : Int64)) :: oP a [(.ref ap), (.ref as), (.ref aq), (.ref ax), (.ref ak), (.int (2 : Int32)), (.ref ag), (.ref ab), (.int (1 : Int32))] :: oA ap (si PP (0 : Int32) v0) :: oA as (si SS (0 : Int32) (0 : Int32)) :: oN aq :: oA ax (si XX (0 : Int32) (0 : Int32)) :: oA ak (si TT (0 : Int32) (-1 : Int32)) :: F) := V159v.putF 2 rfl 8 rfl W161
  have N161 := Fr.snoc X161 N159 (V159v.old 2 rfl)
  have Z161 : n0 ≤ h161.size := by rw [W161.size]; exact Z159
  have O161 := O159q.wr W161 (V159v.old 2 rfl)
  refine OGets.step st161 ?_
  refine OGets.retV X161 hx hlk Bd.returns (hb hby d71m4_260) (Nat.le_of_ble_eq_true rfl) (Nat.le_of_ble_eq_true rfl) ?_
  have Vp162 : OView Z _ h161 (oP a [(.ref ap), (.ref as), (.ref aq), (.ref ax), (.ref ak), (.int (2 : Int32)), (.ref ag), (.ref ab), (.int (1 : Int32))] :: oA ap (si PP (0 : Int32) v0) :: oA as (si SS (0 : Int32) (0 : Int32)) :: oN aq :: oA ax (si XX (0 : Int32) (0 : Int32)) :: oA ak (si TT (0 : Int32) (-1 : Int32)) :: oB ag (sj (sj GG (0 : Int32) (0 : Int64)) (1 : Int32) (0 : Int64)) :: oB ab (sj (sj BB (0 : Int32) (0 : Int64)) (1 : Int32) (0 : Int64)) :: F) := (((((((V161.bring 1 rfl).bring 7 rfl).bring 7 rfl).bring 7 rfl).bring 7 rfl).bring 7 rfl).bring 7 rfl)
  rw [e161]
  exact ⟨rfl, N161, Vp162, O161⟩
theorem ef_rc21 (m : MethodId) (x0 : Int32) (x1 : Int32) (x2 : Int32) : entryFrame m #[(.int x0), (.int x1), (.int x2)] 3 = mkF m 0 #[.val (.int x0), .val (.int x1), .val (.int x2)] [] := by first | (simp [entryFrame, mkF, argsToLocals, Value.category]; done) | rfl
def Q_rc21 (Z : State)  (h0 : Heap) (n0 : Nat) (v : Option Value) (h : Heap) (L : List Loc) : Prop := v = none ∧ L = [] ∧ h = h0
set_option maxRecDepth 65536 in
set_option maxHeartbeats 40000000 in
theorem rm_rc21 (l : Launch) (Z : State) (a0 : Array Value) (hw : ∀ d ∈ tables_1, d.before a0 Z = true) (ws : List Jvm.Cond)  (h0 : Heap) (n0 : Nat) (Z0 : n0 ≤ h0.size) :
    MetFree l (⟨"java/util/Arrays", "rangeCheck", "(III)V"⟩ : MethodName) (head1 (Jvm.Cond.code (⟨"java/util/Arrays", "rangeCheck", "(III)V"⟩ : MethodName) jdk_65_method_30_code 3 none :: ws) ({ frames := 0, cells := 0, slots := 0, locals := 0 } : Room)) (fun a_ U => a_ = #[(.int (32 : Int32)), (.int (2 : Int32)), (.int (4 : Int32))] ∧ Z.Warmed39 U.vm ∧ U.heap = h0) (fun _ _ _ _ _ => True) (fun _ U o U' => ∃ v L, o = .returned v ∧ Q_rc21 Z  h0 n0 v U'.heap L ∧ FrameEnd U o U' L ({ frames := 0, cells := 0, slots := 0, locals := 0 } : Room).cells ({ frames := 0, cells := 0, slots := 0, locals := 0 } : Room).slots) := by
  refine MetFree.of_bodySF (plainFor_of_name pn_1) hisR ?_
  intro p e s m args below meth c s₁ Bd hml0 hP hK
  obtain ⟨rfl, hZ, hh⟩ := hP
  have hx := Bd.exec
  have hby := Bd.bytes
  have hlk : meth.locks = false := Bd.notSynchronized
  have hml : c.maxLocals = 3 := hml0
  have hown : s.vm.findClass "java/util/Arrays" = some m.cls := findClass_of_methodNamed Bd.named
  have hnm := (name_of_methodNamed Bd.named Bd.method).1
  have X0 : Stand p l e ({ frames := 0, cells := 0, slots := 0, locals := 0 } : Room) s m #[(.int (32 : Int32)), (.int (2 : Int32)), (.int (4 : Int32))] below meth c s₁ [] 0 0 := Stand.of_body Bd
  have e0 : s₁.heap = h0 := by rw [← hh, Bd.state]; rfl
  have N0 := Fr.nil n0
  show OGets p e below (OLeaves s (Q_rc21 Z  h0 n0 ) ({ frames := 0, cells := 0, slots := 0, locals := 0 } : Room).cells ({ frames := 0, cells := 0, slots := 0, locals := 0 } : Room).slots) _
  refine OGets.enter (ef_rc21 m (32 : Int32) (2 : Int32) (4 : Int32)) ?_
  show OGets p e below _ (s₁.setTop (mkF m 0 #[iv (32 : Int32), iv (2 : Int32), iv (4 : Int32)] []))
  refine OGets.step (fun _ => XS.iloadN X0.here hx rfl (hb hby dj65m30_0) rfl) ?_
  refine OGets.step (fun _ => XS.iloadN X0.here hx rfl (hb hby dj65m30_1) rfl) ?_
  refine OGets.step (fun _ => XS.icmpYes X0.here hx rfl (pc0 := 2) (pc' := 46) rfl (hb hby dj65m30_2) rfl (flt (by decide : ¬ ((4 : Int32) < (2 : Int32)))).2.2.2 (by decide) (by decide)) ?_
  refine OGets.step (fun _ => XS.iloadN X0.here hx rfl (hb hby dj65m30_46) rfl) ?_
  refine OGets.step (fun _ => XS.ifYes X0.here hx rfl (pc0 := 47) (pc' := 59) rfl (hb hby dj65m30_47) rfl ((if0 _ _).trans (flt (by decide : ¬ ((2 : Int32) < (0 : Int32)))).2.1) (by decide) (by decide)) ?_
  refine OGets.step (fun _ => XS.iloadN X0.here hx rfl (hb hby dj65m30_59) rfl) ?_
  show OGets p e below _ (s₁.setTop (mkF m 60 #[iv (32 : Int32), iv (2 : Int32), iv (4 : Int32)] [(.int (4 : Int32))]))
  refine OGets.step (fun _ => XS.iloadN X0.here hx rfl (hb hby dj65m30_60) rfl) ?_
  refine OGets.step (fun _ => XS.icmpYes X0.here hx rfl (pc0 := 61) (pc' := 73) rfl (hb hby dj65m30_61) rfl (flt (by decide : ¬ ((32 : Int32) < (4 : Int32)))).2.2.2 (by decide) (by decide)) ?_
  refine OGets.retV X0 hx hlk Bd.returns (hb hby dj65m30_73) (Nat.le_of_ble_eq_true rfl) (Nat.le_of_ble_eq_true rfl) ?_
  exact ⟨rfl, rfl, e0⟩
theorem ef_fl21 (m : MethodId) (x0 : Addr) (x1 : Int32) (x2 : Int32) (x3 : Int64) : entryFrame m #[(.ref x0), (.int x1), (.int x2), (.long x3)] 6 = mkF m 0 #[.val (.ref x0), .val (.int x1), .val (.int x2), .val (.long x3), .second, .unset] [] := by first | (simp [entryFrame, mkF, argsToLocals, Value.category]; done) | rfl
def Q_fl21 (Z : State) (g : Addr) (GG : List Int64) (h0 : Heap) (n0 : Nat) (F : List (Addr × OObj)) (v : Option Value) (h : Heap) (L : List Loc) : Prop := v = none ∧ Fr n0 L ∧ OView Z n0 h (oB g (sj (sj GG (2 : Int32) (0 : Int64)) (3 : Int32) (0 : Int64)) :: F) ∧ Old Z n0 h
set_option maxRecDepth 65536 in
set_option maxHeartbeats 40000000 in
theorem rm_fl21 (l : Launch) (Z : State) (a0 : Array Value) (hw : ∀ d ∈ tables_1, d.before a0 Z = true) (ws : List Jvm.Cond) (g : Addr) (GG : List Int64) (h0 : Heap) (n0 : Nat) (F : List (Addr × OObj)) (Z0 : n0 ≤ h0.size) (hlG : GG.length = 32) (V0 : OView Z n0 h0 (oB g GG :: F)) (O0 : Old Z n0 h0) :
    MetFree l (⟨"java/util/Arrays", "fill", "([JIIJ)V"⟩ : MethodName) (head1 (Jvm.Cond.code (⟨"java/util/Arrays", "fill", "([JIIJ)V"⟩ : MethodName) jdk_65_method_102_code 6 none :: ws) ({ frames := 1, cells := 0, slots := 0, locals := 14 } : Room)) (fun a_ U => a_ = #[(.ref g), (.int (2 : Int32)), (.int (4 : Int32)), (.long (0 : Int64))] ∧ Z.Warmed39 U.vm ∧ U.heap = h0) (fun _ _ _ _ _ => True) (fun _ U o U' => ∃ v L, o = .returned v ∧ Q_fl21 Z g GG h0 n0 F v U'.heap L ∧ FrameEnd U o U' L ({ frames := 1, cells := 0, slots := 0, locals := 14 } : Room).cells ({ frames := 1, cells := 0, slots := 0, locals := 14 } : Room).slots) := by
  refine MetFree.of_bodySF (plainFor_of_name pn_1) hisR ?_
  intro p e s m args below meth c s₁ Bd hml0 hP hK
  obtain ⟨rfl, hZ, hh⟩ := hP
  have hx := Bd.exec
  have hby := Bd.bytes
  have hlk : meth.locks = false := Bd.notSynchronized
  have hml : c.maxLocals = 6 := hml0
  have hown : s.vm.findClass "java/util/Arrays" = some m.cls := findClass_of_methodNamed Bd.named
  have hnm := (name_of_methodNamed Bd.named Bd.method).1
  have X0 : Stand p l e ({ frames := 1, cells := 0, slots := 0, locals := 14 } : Room) s m #[(.ref g), (.int (2 : Int32)), (.int (4 : Int32)), (.long (0 : Int64))] below meth c s₁ [] 0 0 := Stand.of_body Bd
  have e0 : s₁.heap = h0 := by rw [← hh, Bd.state]; rfl
  have N0 := Fr.nil n0
  show OGets p e below (OLeaves s (Q_fl21 Z g GG h0 n0 F ) ({ frames := 1, cells := 0, slots := 0, locals := 14 } : Room).cells ({ frames := 1, cells := 0, slots := 0, locals := 14 } : Room).slots) _
  refine OGets.enter (ef_fl21 m g (2 : Int32) (4 : Int32) (0 : Int64)) ?_
  show OGets p e below _ (s₁.setTop (mkF m 0 #[rv g, iv (2 : Int32), iv (4 : Int32), jv (0 : Int64), sv, uv] []))
  refine OGets.step (fun _ => XS.aloadN X0.here hx rfl (hb hby dj65m102_0) rfl rfl) ?_
  obtain ⟨cl166, Ar166, S166⟩ := V0.arr 0 rfl
  have ln166 : cl166.slots.size.toInt32 = (32 : Int32) := by rw [own_len S166]; simp only [List.length_map, si_len, sj_len, List.length_replicate, hlG]; rfl
  refine OGets.step (U' := s₁.setTop (mkF m 2 #[rv g, iv (2 : Int32), iv (4 : Int32), jv (0 : Int64), sv, uv] [(.int (32 : Int32))])) (fun t kt => ?_) ?_
  · refine X0.arraylength hx (by rw [e0]; exact Ar166.1) (State.isArrayOf_alike hZ.alike Ar166.2.1) (g := (mkF m 1 #[rv g, iv (2 : Int32), iv (4 : Int32), jv (0 : Int64), sv, uv] [(.ref g)])) rfl rfl (hb hby dj65m102_1) _ ?_
    rw [ln166]; exact kt
  refine OGets.step (fun _ => XS.iloadN X0.here hx rfl (hb hby dj65m102_2) rfl) ?_
  refine OGets.step (fun _ => XS.iloadN X0.here hx rfl (hb hby dj65m102_3) rfl) ?_
  obtain ⟨_, _, ⟨T167, L167, k167, n167⟩, -, X167, ⟨Lc167, hQ167, l167, y167, z167⟩, st167⟩ := Jvm.LawKit.callS X0 hx (y := (⟨"java/util/Arrays", "rangeCheck", "(III)V"⟩ : MethodName)) hown (mvT hZ (ow hw 40 rfl)) (mvT hZ (ow hw 41 rfl)) (mvT hZ (ow hw 38 rfl)) (mvT hZ (ow hw 42 rfl)) (by decide) (backOf (W := 0) (rm_rc21 l Z a0 hw []  h0 n0  Z0 ) hZ (ow hw 42 rfl) (ow hw 38 rfl) (by decide) (by decide)) (g := (mkF m 4 #[rv g, iv (2 : Int32), iv (4 : Int32), jv (0 : Int64), sv, uv] [(.int (4 : Int32)), (.int (2 : Int32)), (.int (32 : Int32))])) rfl (by rw [hml]; rfl) (argsL := [(.int (32 : Int32)), (.int (2 : Int32)), (.int (4 : Int32))]) (rest := []) (lenOf pd_2 rfl) rfl (by show 2 * 0 + _ ≤ _; exact Nat.le_of_eq rfl) (hb hby dj65m102_4) (fun _ _ => ⟨rfl, e0, Nat.le_of_ble_eq_true rfl, Nat.le_of_ble_eq_true rfl⟩)
  dsimp only [Pt.U, Pt.locs, Pt.cells, Pt.slots] at X167 l167 y167 z167 st167 hQ167
  rw [l167, y167, z167] at X167
  obtain ⟨rfl, rfl, e167⟩ := hQ167
  have N167 := Fr.app N0 (Fr.nil n0)
  refine OGets.step st167 ?_
  refine OGets.step (fun _ => XS.iloadN X167.here hx rfl (hb hby dj65m102_7) rfl) ?_
  refine OGets.step (fun _ => XS.istore X167.here hx rfl (hb hby dj65m102_8) rfl (l' := #[rv g, iv (2 : Int32), iv (4 : Int32), jv (0 : Int64), sv, iv (2 : Int32)]) rfl) ?_
  refine OGets.step (fun _ => XS.iload X167.here hx rfl (hb hby dj65m102_10) rfl) ?_
  refine OGets.step (fun _ => XS.iloadN X167.here hx rfl (hb hby dj65m102_12) rfl) ?_
  refine OGets.step (fun _ => XS.icmpNo X167.here hx rfl (hb hby dj65m102_13) rfl (tlt (by decide : (2 : Int32) < (4 : Int32))).2.1) ?_
  show OGets p e below _ (T167.setTop (mkF m 16 #[rv g, iv (2 : Int32), iv (4 : Int32), jv (0 : Int64), sv, iv (2 : Int32)] []))
  refine OGets.step (fun _ => XS.aloadN X167.here hx rfl (hb hby dj65m102_16) rfl rfl) ?_
  refine OGets.step (fun _ => XS.iload X167.here hx rfl (hb hby dj65m102_17) rfl) ?_
  refine OGets.step (fun _ => XS.lloadN X167.here hx rfl (hb hby dj65m102_19) rfl) ?_
  obtain ⟨cl169, Ar169, S169⟩ := V0.arr 0 rfl
  obtain ⟨T169, h169, X169, e169, W169, st169⟩ := stJ X167 hx hZ e167 Ar169 (j := (2 : Int32)) (own_sin (n := 32) S169 (by simp only [List.length_map, si_len, sj_len, List.length_replicate, hlG]) (by decide)) (g := (mkF m 20 #[rv g, iv (2 : Int32), iv (4 : Int32), jv (0 : Int64), sv, iv (2 : Int32)] [(.long (0 : Int64)), (.int (2 : Int32)), (.ref g)])) rfl rfl (hb hby dj65m102_20)
  have V169 : OView Z n0 h169 (oB g (sj GG (2 : Int32) (0 : Int64)) :: F) := V0.putJ 0 rfl W169
  have N169 := Fr.snoc X169 N167 (V0.old 0 rfl)
  have Z169 : n0 ≤ h169.size := by rw [W169.size]; exact Z0
  have O169 := O0.wr W169 (V0.old 0 rfl)
  refine OGets.step st169 ?_
  refine OGets.step (fun _ => XS.iinc X169.here hx rfl (hb hby dj65m102_21) rfl (l' := #[rv g, iv (2 : Int32), iv (4 : Int32), jv (0 : Int64), sv, iv (3 : Int32)]) rfl) ?_
  refine OGets.step (fun _ => XS.goto X169.here hx rfl (pc0 := 24) (pc' := 10) rfl (hb hby dj65m102_24) (by decide) (by decide)) ?_
  refine OGets.step (fun _ => XS.iload X169.here hx rfl (hb hby dj65m102_10) rfl) ?_
  refine OGets.step (fun _ => XS.iloadN X169.here hx rfl (hb hby dj65m102_12) rfl) ?_
  refine OGets.step (fun _ => XS.icmpNo X169.here hx rfl (hb hby dj65m102_13) rfl (tlt (by decide : (3 : Int32) < (4 : Int32))).2.1) ?_
  show OGets p e below _ (T169.setTop (mkF m 16 #[rv g, iv (2 : Int32), iv (4 : Int32), jv (0 : Int64), sv, iv (3 : Int32)] []))
  refine OGets.step (fun _ => XS.aloadN X169.here hx rfl (hb hby dj65m102_16) rfl rfl) ?_
  refine OGets.step (fun _ => XS.iload X169.here hx rfl (hb hby dj65m102_17) rfl) ?_
  refine OGets.step (fun _ => XS.lloadN X169.here hx rfl (hb hby dj65m102_19) rfl) ?_
  obtain ⟨cl171, Ar171, S171⟩ := V169.arr 0 rfl
  obtain ⟨T171, h171, X171, e171, W171, st171⟩ := stJ X169 hx hZ e169 Ar171 (j := (3 : Int32)) (own_sin (n := 32) S171 (by simp only [List.length_map, si_len, sj_len, List.length_replicate, hlG]) (by decide)) (g := (mkF m 20 #[rv g, iv (2 : Int32), iv (4 : Int32), jv (0 : Int64), sv, iv (3 : Int32)] [(.long (0 : Int64)), (.int (3 : Int32)), (.ref g)])) rfl rfl (hb hby dj65m102_20)
  have V171 : OView Z n0 h171 (oB g (sj (sj GG (2 : Int32) (0 : Int64)) (3 : Int32) (0 : Int64)) :: F) := V169.putJ 0 rfl W171
  have N171 := Fr.snoc X171 N169 (V169.old 0 rfl)
  have Z171 : n0 ≤ h171.size := by rw [W171.size]; exact Z169
  have O171 := O169.wr W171 (V169.old 0 rfl)
  refine OGets.step st171 ?_
  refine OGets.step (fun _ => XS.iinc X171.here hx rfl (hb hby dj65m102_21) rfl (l' := #[rv g, iv (2 : Int32), iv (4 : Int32), jv (0 : Int64), sv, iv (4 : Int32)]) rfl) ?_
  refine OGets.step (fun _ => XS.goto X171.here hx rfl (pc0 := 24) (pc' := 10) rfl (hb hby dj65m102_24) (by decide) (by decide)) ?_
  refine OGets.step (fun _ => XS.iload X171.here hx rfl (hb hby dj65m102_10) rfl) ?_
  refine OGets.step (fun _ => XS.iloadN X171.here hx rfl (hb hby dj65m102_12) rfl) ?_
  refine OGets.step (fun _ => XS.icmpYes X171.here hx rfl (pc0 := 13) (pc' := 27) rfl (hb hby dj65m102_13) rfl (flt (by decide : ¬ ((4 : Int32) < (4 : Int32)))).2.1 (by decide) (by decide)) ?_
  show OGets p e below _ (T171.setTop (mkF m 27 #[rv g, iv (2 : Int32), iv (4 : Int32), jv (0 : Int64), sv, iv (4 : Int32)] []))
  refine OGets.retV X171 hx hlk Bd.returns (hb hby dj65m102_27) (Nat.le_of_ble_eq_true rfl) (Nat.le_of_ble_eq_true rfl) ?_
  rw [e171]
  exact ⟨rfl, N171, V171, O171⟩
theorem ef_add21 (m : MethodId) (x0 : Addr) (x1 : Int32) : entryFrame m #[(.ref x0), (.int x1)] 2 = mkF m 0 #[.val (.ref x0), .val (.int x1)] [] := by first | (simp [entryFrame, mkF, argsToLocals, Value.category]; done) | rfl
def Q_add21 (Z : State) (a : Addr) (ap : Addr) (as : Addr) (aq : Addr) (ax : Addr) (ak : Addr) (ag : Addr) (ab : Addr) (v0 : Int32) (PP : List Int32) (SS : List Int32) (XX : List Int32) (TT : List Int32) (GG : List Int64) (BB : List Int64) (h0 : Heap) (n0 : Nat) (F : List (Addr × OObj)) (v : Option Value) (h : Heap) (L : List Loc) : Prop := v = none ∧ Fr n0 L ∧ OView Z n0 h (oP a [(.ref ap), (.ref as), (.ref aq), (.ref ax), (.ref ak), (.int (2 : Int32)), (.ref ag), (.ref ab), (.int (2 : Int32))] :: oA ap (si PP (1 : Int32) v0) :: oA as (si SS (1 : Int32) (0 : Int32)) :: oN aq :: oA ax (si XX (1 : Int32) (0 : Int32)) :: oA ak (si TT (1 : Int32) (-1 : Int32)) :: oB ag (sj (sj GG (2 : Int32) (0 : Int64)) (3 : Int32) (0 : Int64)) :: oB ab (sj (sj BB (2 : Int32) (0 : Int64)) (3 : Int32) (0 : Int64)) :: F) ∧ Old Z n0 h
set_option maxRecDepth 65536 in
set_option maxHeartbeats 40000000 in
theorem rm_add21 (l : Launch) (Z : State) (a0 : Array Value) (hw : ∀ d ∈ tables_1, d.before a0 Z = true) (ws : List Jvm.Cond) (a : Addr) (ap : Addr) (as : Addr) (aq : Addr) (ax : Addr) (ak : Addr) (ag : Addr) (ab : Addr) (v0 : Int32) (PP : List Int32) (SS : List Int32) (XX : List Int32) (TT : List Int32) (GG : List Int64) (BB : List Int64) (h0 : Heap) (n0 : Nat) (F : List (Addr × OObj)) (Z0 : n0 ≤ h0.size) (hlP : PP.length = 16) (hlS : SS.length = 16) (hlX : XX.length = 16) (hlT : TT.length = 16) (hlG : GG.length = 32) (hlB : BB.length = 32) (V0 : OView Z n0 h0 (oP a [(.ref ap), (.ref as), (.ref aq), (.ref ax), (.ref ak), (.int (2 : Int32)), (.ref ag), (.ref ab), (.int (1 : Int32))] :: oA ap PP :: oA as SS :: oN aq :: oA ax XX :: oA ak TT :: oB ag GG :: oB ab BB :: F)) (O0 : Old Z n0 h0) :
    MetFree l (⟨"com/example/inya/inya/SearchPath", "add", "(I)V"⟩ : MethodName) (head1 (Jvm.Cond.code (⟨"com/example/inya/inya/SearchPath", "add", "(I)V"⟩ : MethodName) prog_71_method_4_code 2 none :: ws) ({ frames := 2, cells := 0, slots := 0, locals := 31 } : Room)) (fun a_ U => a_ = #[(.ref a), (.int v0)] ∧ Z.Warmed39 U.vm ∧ U.heap = h0) (fun _ _ _ _ _ => True) (fun _ U o U' => ∃ v L, o = .returned v ∧ Q_add21 Z a ap as aq ax ak ag ab v0 PP SS XX TT GG BB h0 n0 F v U'.heap L ∧ FrameEnd U o U' L ({ frames := 2, cells := 0, slots := 0, locals := 31 } : Room).cells ({ frames := 2, cells := 0, slots := 0, locals := 31 } : Room).slots) := by
  refine MetFree.of_bodySF (plainFor_of_name pn_0) hisR ?_
  intro p e s m args below meth c s₁ Bd hml0 hP hK
  obtain ⟨rfl, hZ, hh⟩ := hP
  have hx := Bd.exec
  have hby := Bd.bytes
  have hlk : meth.locks = false := Bd.notSynchronized
  have hml : c.maxLocals = 2 := hml0
  have hown : s.vm.findClass "com/example/inya/inya/SearchPath" = some m.cls := findClass_of_methodNamed Bd.named
  have hnm := (name_of_methodNamed Bd.named Bd.method).1
  have X0 : Stand p l e ({ frames := 2, cells := 0, slots := 0, locals := 31 } : Room) s m #[(.ref a), (.int v0)] below meth c s₁ [] 0 0 := Stand.of_body Bd
  have e0 : s₁.heap = h0 := by rw [← hh, Bd.state]; rfl
  have N0 := Fr.nil n0
  show OGets p e below (OLeaves s (Q_add21 Z a ap as aq ax ak ag ab v0 PP SS XX TT GG BB h0 n0 F ) ({ frames := 2, cells := 0, slots := 0, locals := 31 } : Room).cells ({ frames := 2, cells := 0, slots := 0, locals := 31 } : Room).slots) _
  refine OGets.enter (ef_add21 m a v0) ?_
  show OGets p e below _ (s₁.setTop (mkF m 0 #[rv a, iv v0] []))
  refine OGets.step (fun _ => XS.aloadN X0.here hx rfl (hb hby d71m4_0) rfl rfl) ?_
  obtain ⟨T173, X173, e173, st173⟩ := getF X0 hx hZ hown (host := "") (Or.inl (ow hw 34 rfl)) Via.refl e0 (V0.fld 0 rfl 8 rfl rfl) (g := (mkF m 1 #[rv a, iv v0] [(.ref a)])) rfl rfl (hb hby d71m4_1)
  refine OGets.step st173 ?_
  refine OGets.step (fun _ => XS.aloadN X173.here hx rfl (hb hby d71m4_4) rfl rfl) ?_
  obtain ⟨T174, X174, e174, st174⟩ := getF X173 hx hZ hown (host := "") (Or.inl (ow hw 11 rfl)) Via.refl e173 (V0.fld 0 rfl 0 rfl rfl) (g := (mkF m 5 #[rv a, iv v0] [(.ref a), (.int (1 : Int32))])) rfl rfl (hb hby d71m4_5)
  refine OGets.step st174 ?_
  obtain ⟨cl175, Ar175, S175⟩ := V0.arr 1 rfl
  have ln175 : cl175.slots.size.toInt32 = (16 : Int32) := by rw [own_len S175]; simp only [List.length_map, si_len, sj_len, List.length_replicate, hlP]; rfl
  refine OGets.step (U' := T174.setTop (mkF m 9 #[rv a, iv v0] [(.int (16 : Int32)), (.int (1 : Int32))])) (fun t kt => ?_) ?_
  · refine X174.arraylength hx (by rw [e174]; exact Ar175.1) (State.isArrayOf_alike hZ.alike Ar175.2.1) (g := (mkF m 8 #[rv a, iv v0] [(.ref ap), (.int (1 : Int32))])) rfl rfl (hb hby d71m4_8) _ ?_
    rw [ln175]; exact kt
  refine OGets.step (fun _ => XS.icmpYes X174.here hx rfl (pc0 := 9) (pc' := 144) rfl (hb hby d71m4_9) rfl (feq (by decide : ¬ ((1 : Int32) = (16 : Int32)))).2 (by decide) (by decide)) ?_
  refine OGets.step (fun _ => XS.aloadN X174.here hx rfl (hb hby d71m4_144) rfl rfl) ?_
  obtain ⟨T177, X177, e177, st177⟩ := getF X174 hx hZ hown (host := "") (Or.inl (ow hw 11 rfl)) Via.refl e174 (V0.fld 0 rfl 0 rfl rfl) (g := (mkF m 145 #[rv a, iv v0] [(.ref a)])) rfl rfl (hb hby d71m4_145)
  refine OGets.step st177 ?_
  refine OGets.step (fun _ => XS.aloadN X177.here hx rfl (hb hby d71m4_148) rfl rfl) ?_
  obtain ⟨T178, X178, e178, st178⟩ := getF X177 hx hZ hown (host := "") (Or.inl (ow hw 34 rfl)) Via.refl e177 (V0.fld 0 rfl 8 rfl rfl) (g := (mkF m 149 #[rv a, iv v0] [(.ref a), (.ref ap)])) rfl rfl (hb hby d71m4_149)
  refine OGets.step st178 ?_
  refine OGets.step (fun _ => XS.iloadN X178.here hx rfl (hb hby d71m4_152) rfl) ?_
  obtain ⟨cl179, Ar179, S179⟩ := V0.arr 1 rfl
  obtain ⟨T179, h179, X179, e179, W179, st179⟩ := stI X178 hx hZ e178 Ar179 (j := (1 : Int32)) (own_sin (n := 16) S179 (by simp only [List.length_map, si_len, sj_len, List.length_replicate, hlP]) (by decide)) (g := (mkF m 153 #[rv a, iv v0] [(.int v0), (.int (1 : Int32)), (.ref ap)])) rfl rfl (hb hby d71m4_153)
  have V179 : OView Z n0 h179 (oP a [(.ref ap), (.ref as), (.ref aq), (.ref ax), (.ref ak), (.int (2 : Int32)), (.ref ag), (.ref ab), (.int (1 : Int32))] :: oA ap (si PP (1 : Int32) v0) :: oA as SS :: oN aq :: oA ax XX :: oA ak TT :: oB ag GG :: oB ab BB :: F) := V0.putI 1 rfl W179
  have N179 := Fr.snoc X179 N0 (V0.old 1 rfl)
  have Z179 : n0 ≤ h179.size := by rw [W179.size]; exact Z0
  have O179 := O0.wr W179 (V0.old 1 rfl)
  refine OGets.step st179 ?_
  refine OGets.step (fun _ => XS.aloadN X179.here hx rfl (hb hby d71m4_154) rfl rfl) ?_
  obtain ⟨T180, X180, e180, st180⟩ := getF X179 hx hZ hown (host := "") (Or.inl (ow hw 13 rfl)) Via.refl e179 (V179.fld 0 rfl 1 rfl rfl) (g := (mkF m 155 #[rv a, iv v0] [(.ref a)])) rfl rfl (hb hby d71m4_155)
  refine OGets.step st180 ?_
  refine OGets.step (fun _ => XS.aloadN X180.here hx rfl (hb hby d71m4_158) rfl rfl) ?_
  obtain ⟨T181, X181, e181, st181⟩ := getF X180 hx hZ hown (host := "") (Or.inl (ow hw 34 rfl)) Via.refl e180 (V179.fld 0 rfl 8 rfl rfl) (g := (mkF m 159 #[rv a, iv v0] [(.ref a), (.ref as)])) rfl rfl (hb hby d71m4_159)
  refine OGets.step st181 ?_
  refine OGets.step (fun _ => XS.iconst X181.here hx rfl (hb hby d71m4_162)) ?_
  obtain ⟨cl182, Ar182, S182⟩ := V179.arr 2 rfl
  obtain ⟨T182, h182, X182, e182, W182, st182⟩ := stI X181 hx hZ e181 Ar182 (j := (1 : Int32)) (own_sin (n := 16) S182 (by simp only [List.length_map, si_len, sj_len, List.length_replicate, hlS]) (by decide)) (g := (mkF m 163 #[rv a, iv v0] [(.int (0 : Int32)), (.int (1 : Int32)), (.ref as)])) rfl rfl (hb hby d71m4_163)
  have V182 : OView Z n0 h182 (oP a [(.ref ap), (.ref as), (.ref aq), (.ref ax), (.ref ak), (.int (2 : Int32)), (.ref ag), (.ref ab), (.int (1 : Int32))] :: oA ap (si PP (1 : Int32) v0) :: oA as (si SS (1 : Int32) (0 : Int32)) :: oN aq :: oA ax XX :: oA ak TT :: oB ag GG :: oB ab BB :: F) := V179.putI 2 rfl W182
  have N182 := Fr.snoc X182 N179 (V179.old 2 rfl)
  have Z182 : n0 ≤ h182.size := by rw [W182.size]; exact Z179
  have O182 := O179.wr W182 (V179.old 2 rfl)
  refine OGets.step st182 ?_
  refine OGets.step (fun _ => XS.aloadN X182.here hx rfl (hb hby d71m4_164) rfl rfl) ?_
  obtain ⟨T183, X183, e183, st183⟩ := getF X182 hx hZ hown (host := "") (Or.inl (ow hw 17 rfl)) Via.refl e182 (V182.fld 0 rfl 2 rfl rfl) (g := (mkF m 165 #[rv a, iv v0] [(.ref a)])) rfl rfl (hb hby d71m4_165)
  refine OGets.step st183 ?_
  refine OGets.step (fun _ => XS.aloadN X183.here hx rfl (hb hby d71m4_168) rfl rfl) ?_
  obtain ⟨T184, X184, e184, st184⟩ := getF X183 hx hZ hown (host := "") (Or.inl (ow hw 34 rfl)) Via.refl e183 (V182.fld 0 rfl 8 rfl rfl) (g := (mkF m 169 #[rv a, iv v0] [(.ref a), (.ref aq)])) rfl rfl (hb hby d71m4_169)
  refine OGets.step st184 ?_
  refine OGets.step (fun _ => XS.aconstNull X184.here hx rfl (hb hby d71m4_172)) ?_
  obtain ⟨cl185, Ar185, S185⟩ := V182.arr 3 rfl
  obtain ⟨T185, h185, X185, e185, W185', st185⟩ := stR X184 hx hZ e184 Ar185 (j := (1 : Int32)) (own_inb S185 1 (by decide) (Nat.le_of_ble_eq_true rfl)) rfl (Or.inl rfl) (g := (mkF m 173 #[rv a, iv v0] [.null, (.int (1 : Int32)), (.ref aq)])) rfl rfl (hb hby d71m4_173)
  have W185 := own_wr (vs := []) 1 (by decide) W185'
  have V185 : OView Z n0 h185 (oP a [(.ref ap), (.ref as), (.ref aq), (.ref ax), (.ref ak), (.int (2 : Int32)), (.ref ag), (.ref ab), (.int (1 : Int32))] :: oA ap (si PP (1 : Int32) v0) :: oA as (si SS (1 : Int32) (0 : Int32)) :: oN aq :: oA ax XX :: oA ak TT :: oB ag GG :: oB ab BB :: F) := V182.putA 3 rfl W185
  have N185 := Fr.snoc X185 N182 (V182.old 3 rfl)
  have Z185 : n0 ≤ h185.size := by rw [W185.size]; exact Z182
  have O185 := O182.wr W185 (V182.old 3 rfl)
  refine OGets.step st185 ?_
  refine OGets.step (fun _ => XS.aloadN X185.here hx rfl (hb hby d71m4_174) rfl rfl) ?_
  obtain ⟨T186, X186, e186, st186⟩ := getF X185 hx hZ hown (host := "") (Or.inl (ow hw 19 rfl)) Via.refl e185 (V185.fld 0 rfl 3 rfl rfl) (g := (mkF m 175 #[rv a, iv v0] [(.ref a)])) rfl rfl (hb hby d71m4_175)
  refine OGets.step st186 ?_
  refine OGets.step (fun _ => XS.aloadN X186.here hx rfl (hb hby d71m4_178) rfl rfl) ?_
  obtain ⟨T187, X187, e187, st187⟩ := getF X186 hx hZ hown (host := "") (Or.inl (ow hw 34 rfl)) Via.refl e186 (V185.fld 0 rfl 8 rfl rfl) (g := (mkF m 179 #[rv a, iv v0] [(.ref a), (.ref ax)])) rfl rfl (hb hby d71m4_179)
  refine OGets.step st187 ?_
  refine OGets.step (fun _ => XS.iconst X187.here hx rfl (hb hby d71m4_182)) ?_
  obtain ⟨cl188, Ar188, S188⟩ := V185.arr 4 rfl
  obtain ⟨T188, h188, X188, e188, W188, st188⟩ := stI X187 hx hZ e187 Ar188 (j := (1 : Int32)) (own_sin (n := 16) S188 (by simp only [List.length_map, si_len, sj_len, List.length_replicate, hlX]) (by decide)) (g := (mkF m 183 #[rv a, iv v0] [(.int (0 : Int32)), (.int (1 : Int32)), (.ref ax)])) rfl rfl (hb hby d71m4_183)
  have V188 : OView Z n0 h188 (oP a [(.ref ap), (.ref as), (.ref aq), (.ref ax), (.ref ak), (.int (2 : Int32)), (.ref ag), (.ref ab), (.int (1 : Int32))] :: oA ap (si PP (1 : Int32) v0) :: oA as (si SS (1 : Int32) (0 : Int32)) :: oN aq :: oA ax (si XX (1 : Int32) (0 : Int32)) :: oA ak TT :: oB ag GG :: oB ab BB :: F) := V185.putI 4 rfl W188
  have N188 := Fr.snoc X188 N185 (V185.old 4 rfl)
  have Z188 : n0 ≤ h188.size := by rw [W188.size]; exact Z185
  have O188 := O185.wr W188 (V185.old 4 rfl)
  refine OGets.step st188 ?_
  refine OGets.step (fun _ => XS.aloadN X188.here hx rfl (hb hby d71m4_184) rfl rfl) ?_
  obtain ⟨T189, X189, e189, st189⟩ := getF X188 hx hZ hown (host := "") (Or.inl (ow hw 21 rfl)) Via.refl e188 (V188.fld 0 rfl 4 rfl rfl) (g := (mkF m 185 #[rv a, iv v0] [(.ref a)])) rfl rfl (hb hby d71m4_185)
  refine OGets.step st189 ?_
  refine OGets.step (fun _ => XS.aloadN X189.here hx rfl (hb hby d71m4_188) rfl rfl) ?_
  obtain ⟨T190, X190, e190, st190⟩ := getF X189 hx hZ hown (host := "") (Or.inl (ow hw 34 rfl)) Via.refl e189 (V188.fld 0 rfl 8 rfl rfl) (g := (mkF m 189 #[rv a, iv v0] [(.ref a), (.ref ak)])) rfl rfl (hb hby d71m4_189)
  refine OGets.step st190 ?_
  refine OGets.step (fun _ => XS.iconst X190.here hx rfl (hb hby d71m4_192)) ?_
  obtain ⟨cl191, Ar191, S191⟩ := V188.arr 5 rfl
  obtain ⟨T191, h191, X191, e191, W191, st191⟩ := stI X190 hx hZ e190 Ar191 (j := (1 : Int32)) (own_sin (n := 16) S191 (by simp only [List.length_map, si_len, sj_len, List.length_replicate, hlT]) (by decide)) (g := (mkF m 193 #[rv a, iv v0] [(.int (-1 : Int32)), (.int (1 : Int32)), (.ref ak)])) rfl rfl (hb hby d71m4_193)
  have V191 : OView Z n0 h191 (oP a [(.ref ap), (.ref as), (.ref aq), (.ref ax), (.ref ak), (.int (2 : Int32)), (.ref ag), (.ref ab), (.int (1 : Int32))] :: oA ap (si PP (1 : Int32) v0) :: oA as (si SS (1 : Int32) (0 : Int32)) :: oN aq :: oA ax (si XX (1 : Int32) (0 : Int32)) :: oA ak (si TT (1 : Int32) (-1 : Int32)) :: oB ag GG :: oB ab BB :: F) := V188.putI 5 rfl W191
  have N191 := Fr.snoc X191 N188 (V188.old 5 rfl)
  have Z191 : n0 ≤ h191.size := by rw [W191.size]; exact Z188
  have O191 := O188.wr W191 (V188.old 5 rfl)
  refine OGets.step st191 ?_
  refine OGets.step (fun _ => XS.aloadN X191.here hx rfl (hb hby d71m4_194) rfl rfl) ?_
  obtain ⟨T192, X192, e192, st192⟩ := getF X191 hx hZ hown (host := "") (Or.inl (ow hw 25 rfl)) Via.refl e191 (V191.fld 0 rfl 6 rfl rfl) (g := (mkF m 195 #[rv a, iv v0] [(.ref a)])) rfl rfl (hb hby d71m4_195)
  refine OGets.step st192 ?_
  refine OGets.step (fun _ => XS.aloadN X192.here hx rfl (hb hby d71m4_198) rfl rfl) ?_
  obtain ⟨T193, X193, e193, st193⟩ := getF X192 hx hZ hown (host := "") (Or.inl (ow hw 34 rfl)) Via.refl e192 (V191.fld 0 rfl 8 rfl rfl) (g := (mkF m 199 #[rv a, iv v0] [(.ref a), (.ref ag)])) rfl rfl (hb hby d71m4_199)
  refine OGets.step st193 ?_
  refine OGets.step (fun _ => XS.aloadN X193.here hx rfl (hb hby d71m4_202) rfl rfl) ?_
  obtain ⟨T194, X194, e194, st194⟩ := getF X193 hx hZ hown (host := "") (Or.inl (ow hw 23 rfl)) Via.refl e193 (V191.fld 0 rfl 5 rfl rfl) (g := (mkF m 203 #[rv a, iv v0] [(.ref a), (.int (1 : Int32)), (.ref ag)])) rfl rfl (hb hby d71m4_203)
  refine OGets.step st194 ?_
  refine OGets.step (fun _ => XS.imul X194.here hx rfl (hb hby d71m4_206) rfl) ?_
  show OGets p e below _ (T194.setTop (mkF m 207 #[rv a, iv v0] [(.int (2 : Int32)), (.ref ag)]))
  refine OGets.step (fun _ => XS.aloadN X194.here hx rfl (hb hby d71m4_207) rfl rfl) ?_
  obtain ⟨T195, X195, e195, st195⟩ := getF X194 hx hZ hown (host := "") (Or.inl (ow hw 34 rfl)) Via.refl e194 (V191.fld 0 rfl 8 rfl rfl) (g := (mkF m 208 #[rv a, iv v0] [(.ref a), (.int (2 : Int32)), (.ref ag)])) rfl rfl (hb hby d71m4_208)
  refine OGets.step st195 ?_
  refine OGets.step (fun _ => XS.iconst X195.here hx rfl (hb hby d71m4_211)) ?_
  refine OGets.step (fun _ => XS.iadd X195.here hx rfl (hb hby d71m4_212) rfl) ?_
  show OGets p e below _ (T195.setTop (mkF m 213 #[rv a, iv v0] [(.int (2 : Int32)), (.int (2 : Int32)), (.ref ag)]))
  refine OGets.step (fun _ => XS.aloadN X195.here hx rfl (hb hby d71m4_213) rfl rfl) ?_
  obtain ⟨T196, X196, e196, st196⟩ := getF X195 hx hZ hown (host := "") (Or.inl (ow hw 23 rfl)) Via.refl e195 (V191.fld 0 rfl 5 rfl rfl) (g := (mkF m 214 #[rv a, iv v0] [(.ref a), (.int (2 : Int32)), (.int (2 : Int32)), (.ref ag)])) rfl rfl (hb hby d71m4_214)
  refine OGets.step st196 ?_
  refine OGets.step (fun _ => XS.imul X196.here hx rfl (hb hby d71m4_217) rfl) ?_
  show OGets p e below _ (T196.setTop (mkF m 218 #[rv a, iv v0] [(.int (4 : Int32)), (.int (2 : Int32)), (.ref ag)]))
  refine OGets.step (fun _ => XS.lconst X196.here hx rfl (hb hby d71m4_218)) ?_
  have V197_ : OView Z _ h191 (oB ag GG :: oP a [(.ref ap), (.ref as), (.ref aq), (.ref ax), (.ref ak), (.int (2 : Int32)), (.ref ag), (.ref ab), (.int (1 : Int32))] :: oA ap (si PP (1 : Int32) v0) :: oA as (si SS (1 : Int32) (0 : Int32)) :: oN aq :: oA ax (si XX (1 : Int32) (0 : Int32)) :: oA ak (si TT (1 : Int32) (-1 : Int32)) :: oB ab BB :: F) := (V191.bring 6 rfl)
  obtain ⟨_, _, ⟨T197, L197, k197, n197⟩, -, X197, ⟨Lc197, hQ197, l197, y197, z197⟩, st197⟩ := Jvm.LawKit.callS X196 hx (y := (⟨"java/util/Arrays", "fill", "([JIIJ)V"⟩ : MethodName)) hown (mvT hZ (ow hw 36 rfl)) (mvT hZ (ow hw 37 rfl)) (mvT hZ (ow hw 38 rfl)) (mvT hZ (ow hw 39 rfl)) (by decide) (backOf (W := 0) (rm_fl21 l Z a0 hw [] ag GG h191 n0 _ Z191 (by simp only [sj_len, List.length_replicate, hlG]) V197_ O191) hZ (ow hw 39 rfl) (ow hw 38 rfl) (by decide) (by decide)) (g := (mkF m 219 #[rv a, iv v0] [(.long (0 : Int64)), (.int (4 : Int32)), (.int (2 : Int32)), (.ref ag)])) rfl (by rw [hml]; rfl) (argsL := [(.ref ag), (.int (2 : Int32)), (.int (4 : Int32)), (.long (0 : Int64))]) (rest := []) (lenOf pd_3 rfl) rfl (by show 2 * 0 + _ ≤ _; exact Nat.le_of_eq rfl) (hb hby d71m4_219) (fun _ _ => ⟨rfl, e196, Nat.le_of_ble_eq_true rfl, Nat.le_of_ble_eq_true rfl⟩)
  dsimp only [Pt.U, Pt.locs, Pt.cells, Pt.slots] at X197 l197 y197 z197 st197 hQ197
  rw [l197, y197, z197] at X197
  obtain ⟨rfl, N197q, V197, O197q⟩ := hQ197
  have N197 := Fr.app N191 N197q
  have V197v : OView Z n0 T197.heap (oB ag (sj (sj GG (2 : Int32) (0 : Int64)) (3 : Int32) (0 : Int64)) :: oP a [(.ref ap), (.ref as), (.ref aq), (.ref ax), (.ref ak), (.int (2 : Int32)), (.ref ag), (.ref ab), (.int (1 : Int32))] :: oA ap (si PP (1 : Int32) v0) :: oA as (si SS (1 : Int32) (0 : Int32)) :: oN aq :: oA ax (si XX (1 : Int32) (0 : Int32)) :: oA ak (si TT (1 : Int32) (-1 : Int32)) :: oB ab BB :: F) := V197
  have Z197 : n0 ≤ T197.heap.size := V197v.big 0 rfl
  refine OGets.step st197 ?_
  refine OGets.step (fun _ => XS.aloadN X197.here hx rfl (hb hby d71m4_222) rfl rfl) ?_
  obtain ⟨T198, X198, e198, st198⟩ := getF X197 hx hZ hown (host := "") (Or.inl (ow hw 27 rfl)) Via.refl rfl (V197v.fld 1 rfl 7 rfl rfl) (g := (mkF m 223 #[rv a, iv v0] [(.ref a)])) rfl rfl (hb hby d71m4_223)
  refine OGets.step st198 ?_
  refine OGets.step (fun _ => XS.aloadN X198.here hx rfl (hb hby d71m4_226) rfl rfl) ?_
  obtain ⟨T199, X199, e199, st199⟩ := getF X198 hx hZ hown (host := "") (Or.inl (ow hw 34 rfl)) Via.refl e198 (V197v.fld 1 rfl 8 rfl rfl) (g := (mkF m 227 #[rv a, iv v0] [(.ref a), (.ref ab)])) rfl rfl (hb hby d71m4_227)
  refine OGets.step st199 ?_
  refine OGets.step (fun _ => XS.aloadN X199.here hx rfl (hb hby d71m4_230) rfl rfl) ?_
  obtain ⟨T200, X200, e200, st200⟩ := getF X199 hx hZ hown (host := "") (Or.inl (ow hw 23 rfl)) Via.refl e199 (V197v.fld 1 rfl 5 rfl rfl) (g := (mkF m 231 #[rv a, iv v0] [(.ref a), (.int (1 : Int32)), (.ref ab)])) rfl rfl (hb hby d71m4_231)
  refine OGets.step st200 ?_
  refine OGets.step (fun _ => XS.imul X200.here hx rfl (hb hby d71m4_234) rfl) ?_
  show OGets p e below _ (T200.setTop (mkF m 235 #[rv a, iv v0] [(.int (2 : Int32)), (.ref ab)]))
  refine OGets.step (fun _ => XS.aloadN X200.here hx rfl (hb hby d71m4_235) rfl rfl) ?_
  obtain ⟨T201, X201, e201, st201⟩ := getF X200 hx hZ hown (host := "") (Or.inl (ow hw 34 rfl)) Via.refl e200 (V197v.fld 1 rfl 8 rfl rfl) (g := (mkF m 236 #[rv a, iv v0] [(.ref a), (.int (2 : Int32)), (.ref ab)])) rfl rfl (hb hby d71m4_236)
  refine OGets.step st201 ?_
  refine OGets.step (fun _ => XS.iconst X201.here hx rfl (hb hby d71m4_239)) ?_
  refine OGets.step (fun _ => XS.iadd X201.here hx rfl (hb hby d71m4_240) rfl) ?_
  show OGets p e below _ (T201.setTop (mkF m 241 #[rv a, iv v0] [(.int (2 : Int32)), (.int (2 : Int32)), (.ref ab)]))
  refine OGets.step (fun _ => XS.aloadN X201.here hx rfl (hb hby d71m4_241) rfl rfl) ?_
  obtain ⟨T202, X202, e202, st202⟩ := getF X201 hx hZ hown (host := "") (Or.inl (ow hw 23 rfl)) Via.refl e201 (V197v.fld 1 rfl 5 rfl rfl) (g := (mkF m 242 #[rv a, iv v0] [(.ref a), (.int (2 : Int32)), (.int (2 : Int32)), (.ref ab)])) rfl rfl (hb hby d71m4_242)
  refine OGets.step st202 ?_
  refine OGets.step (fun _ => XS.imul X202.here hx rfl (hb hby d71m4_245) rfl) ?_
  show OGets p e below _ (T202.setTop (mkF m 246 #[rv a, iv v0] [(.int (4 : Int32)), (.int (2 : Int32)), (.ref ab)]))
  refine OGets.step (fun _ => XS.lconst X202.here hx rfl (hb hby d71m4_246)) ?_
  have V203_ : OView Z _ T197.heap (oB ab BB :: oB ag (sj (sj GG (2 : Int32) (0 : Int64)) (3 : Int32) (0 : Int64)) :: oP a [(.ref ap), (.ref as), (.ref aq), (.ref ax), (.ref ak), (.int (2 : Int32)), (.ref ag), (.ref ab), (.int (1 : Int32))] :: oA ap (si PP (1 : Int32) v0) :: oA as (si SS (1 : Int32) (0 : Int32)) :: oN aq :: oA ax (si XX (1 : Int32) (0 : Int32)) :: oA ak (si TT (1 : Int32) (-1 : Int32)) :: F) := (V197v.bring 7 rfl)
  obtain ⟨_, _, ⟨T203, L203, k203, n203⟩, -, X203, ⟨Lc203, hQ203, l203, y203, z203⟩, st203⟩ := Jvm.LawKit.callS X202 hx (y := (⟨"java/util/Arrays", "fill", "([JIIJ)V"⟩ : MethodName)) hown (mvT hZ (ow hw 36 rfl)) (mvT hZ (ow hw 37 rfl)) (mvT hZ (ow hw 38 rfl)) (mvT hZ (ow hw 39 rfl)) (by decide) (backOf (W := 0) (rm_fl21 l Z a0 hw [] ab BB T197.heap n0 _ Z197 (by simp only [sj_len, List.length_replicate, hlB]) V203_ O197q) hZ (ow hw 39 rfl) (ow hw 38 rfl) (by decide) (by decide)) (g := (mkF m 247 #[rv a, iv v0] [(.long (0 : Int64)), (.int (4 : Int32)), (.int (2 : Int32)), (.ref ab)])) rfl (by rw [hml]; rfl) (argsL := [(.ref ab), (.int (2 : Int32)), (.int (4 : Int32)), (.long (0 : Int64))]) (rest := []) (lenOf pd_3 rfl) rfl (by show 2 * 0 + _ ≤ _; exact Nat.le_of_eq rfl) (hb hby d71m4_247) (fun _ _ => ⟨rfl, e202, Nat.le_of_ble_eq_true rfl, Nat.le_of_ble_eq_true rfl⟩)
  dsimp only [Pt.U, Pt.locs, Pt.cells, Pt.slots] at X203 l203 y203 z203 st203 hQ203
  rw [l203, y203, z203] at X203
  obtain ⟨rfl, N203q, V203, O203q⟩ := hQ203
  have N203 := Fr.app N197 N203q
  have V203v : OView Z n0 T203.heap (oB ab (sj (sj BB (2 : Int32) (0 : Int64)) (3 : Int32) (0 : Int64)) :: oB ag (sj (sj GG (2 : Int32) (0 : Int64)) (3 : Int32) (0 : Int64)) :: oP a [(.ref ap), (.ref as), (.ref aq), (.ref ax), (.ref ak), (.int (2 : Int32)), (.ref ag), (.ref ab), (.int (1 : Int32))] :: oA ap (si PP (1 : Int32) v0) :: oA as (si SS (1 : Int32) (0 : Int32)) :: oN aq :: oA ax (si XX (1 : Int32) (0 : Int32)) :: oA ak (si TT (1 : Int32) (-1 : Int32)) :: F) := V203
  have Z203 : n0 ≤ T203.heap.size := V203v.big 0 rfl
  refine OGets.step st203 ?_
  refine OGets.step (fun _ => XS.aloadN X203.here hx rfl (hb hby d71m4_250) rfl rfl) ?_
  refine OGets.step (fun _ => XS.dup X203.here hx rfl (hb hby d71m4_251) rfl rfl) ?_
  obtain ⟨T204, X204, e204, st204⟩ := getF X203 hx hZ hown (host := "") (Or.inl (ow hw 34 rfl)) Via.refl rfl (V203v.fld 2 rfl 8 rfl rfl) (g := (mkF m 252 #[rv a, iv v0] [(.ref a), (.ref a)])) rfl rfl (hb hby d71m4_252)
  refine OGets.step st204 ?_
  refine OGets.step (fun _ => XS.iconst X204.here hx rfl (hb hby d71m4_255)) ?_
  refine OGets.step (fun _ => XS.iadd X204.here hx rfl (hb hby d71m4_256) rfl) ?_
  show OGets p e below _ (T204.setTop (mkF m 257 #[rv a, iv v0] [(.int (2 : Int32)), (.ref a)]))
  obtain ⟨T205, h205, X205, e205, W205, st205⟩ := putF X204 hx hZ hown (host := "") (Or.inl (ow hw 34 rfl)) Via.refl e204 (V203v.fld 2 rfl 8 rfl rfl) (V203v.exa 2 rfl) (Or.inl (ow hw 35 rfl)) (ow hw 2 rfl) (ty := .int) (by decide) rfl rfl (g := (mkF m 257 #[rv a, iv v0] [(.int (2 : Int32)), (.ref a)])) rfl rfl (hb hby d71m4_257)
  have V205 : OView Z n0 h205 (oB ab (sj (sj BB (2 : Int32) (0 : Int64)) (3 : Int32) (0 : Int64)) :: oB ag (sj (sj GG (2 : Int32) (0 : Int64)) (3 : Int32) (0 : Int64)) :: oP a [(.ref ap), (.ref as), (.ref aq), (.ref ax), (.ref ak), (.int (2 : Int32)), (.ref ag), (.ref ab), (.int (2 : Int32))] :: oA ap (si PP (1 : Int32) v0) :: oA as (si SS (1 : Int32) (0 : Int32)) :: oN aq :: oA ax (si XX (1 : Int32) (0 : Int32)) :: oA ak (si TT (1 : Int32) (-1 : Int32)) :: F) := V203v.putF 2 rfl 8 rfl W205
  have N205 := Fr.snoc X205 N203 (V203v.old 2 rfl)
  have Z205 : n0 ≤ h205.size := by rw [W205.size]; exact Z203
  have O205 := O203q.wr W205 (V203v.old 2 rfl)
  refine OGets.step st205 ?_
  refine OGets.retV X205 hx hlk Bd.returns (hb hby d71m4_260) (Nat.le_of_ble_eq_true rfl) (Nat.le_of_ble_eq_true rfl) ?_
  have Vp206 : OView Z _ h205 (oP a [(.ref ap), (.ref as), (.ref aq), (.ref ax), (.ref ak), (.int (2 : Int32)), (.ref ag), (.ref ab), (.int (2 : Int32))] :: oA ap (si PP (1 : Int32) v0) :: oA as (si SS (1 : Int32) (0 : Int32)) :: oN aq :: oA ax (si XX (1 : Int32) (0 : Int32)) :: oA ak (si TT (1 : Int32) (-1 : Int32)) :: oB ag (sj (sj GG (2 : Int32) (0 : Int64)) (3 : Int32) (0 : Int64)) :: oB ab (sj (sj BB (2 : Int32) (0 : Int64)) (3 : Int32) (0 : Int64)) :: F) := (((((((V205.bring 1 rfl).bring 7 rfl).bring 7 rfl).bring 7 rfl).bring 7 rfl).bring 7 rfl).bring 7 rfl)
  rw [e205]
  exact ⟨rfl, N205, Vp206, O205⟩
theorem d71m13_0 : decode prog_71_method_13_code 0 = .ok (.iconst 0, 1) := by decide +kernel
theorem d71m13_1 : decode prog_71_method_13_code 1 = .ok (.istore 4, 2) := by decide +kernel
theorem d71m13_3 : decode prog_71_method_13_code 3 = .ok (.iload 4, 2) := by decide +kernel
theorem d71m13_5 : decode prog_71_method_13_code 5 = .ok (.aload_n 0, 1) := by decide +kernel
theorem d71m13_6 : decode prog_71_method_13_code 6 = .ok (.getfield 27, 3) := by decide +kernel
theorem d71m13_9 : decode prog_71_method_13_code 9 = .ok (.if_icmp .ge 32, 3) := by decide +kernel
theorem d71m13_12 : decode prog_71_method_13_code 12 = .ok (.aload_n 0, 1) := by decide +kernel
theorem d71m13_13 : decode prog_71_method_13_code 13 = .ok (.getfield 31, 3) := by decide +kernel
theorem d71m13_16 : decode prog_71_method_13_code 16 = .ok (.iload_n 1, 1) := by decide +kernel
theorem d71m13_17 : decode prog_71_method_13_code 17 = .ok (.aload_n 0, 1) := by decide +kernel
theorem d71m13_18 : decode prog_71_method_13_code 18 = .ok (.getfield 27, 3) := by decide +kernel
theorem d71m13_21 : decode prog_71_method_13_code 21 = .ok (.imul, 1) := by decide +kernel
theorem d71m13_22 : decode prog_71_method_13_code 22 = .ok (.iload 4, 2) := by decide +kernel
theorem d71m13_24 : decode prog_71_method_13_code 24 = .ok (.iadd, 1) := by decide +kernel
theorem d71m13_25 : decode prog_71_method_13_code 25 = .ok (.dup2, 1) := by decide +kernel
theorem d71m13_26 : decode prog_71_method_13_code 26 = .ok (.laload, 1) := by decide +kernel
theorem d71m13_27 : decode prog_71_method_13_code 27 = .ok (.aload_n 2, 1) := by decide +kernel
theorem d71m13_28 : decode prog_71_method_13_code 28 = .ok (.iload_n 3, 1) := by decide +kernel
theorem d71m13_29 : decode prog_71_method_13_code 29 = .ok (.iload 4, 2) := by decide +kernel
theorem d71m13_31 : decode prog_71_method_13_code 31 = .ok (.iadd, 1) := by decide +kernel
theorem d71m13_32 : decode prog_71_method_13_code 32 = .ok (.laload, 1) := by decide +kernel
theorem d71m13_33 : decode prog_71_method_13_code 33 = .ok (.lor, 1) := by decide +kernel
theorem d71m13_34 : decode prog_71_method_13_code 34 = .ok (.lastore, 1) := by decide +kernel
theorem d71m13_35 : decode prog_71_method_13_code 35 = .ok (.iinc 4 1, 3) := by decide +kernel
theorem d71m13_38 : decode prog_71_method_13_code 38 = .ok (.goto (-35), 3) := by decide +kernel
theorem d71m13_41 : decode prog_71_method_13_code 41 = .ok (.return_, 1) := by decide +kernel
theorem ef_gat10 (m : MethodId) (x0 : Addr) (x1 : Int32) (x2 : Addr) (x3 : Int32) : entryFrame m #[(.ref x0), (.int x1), (.ref x2), (.int x3)] 5 = mkF m 0 #[.val (.ref x0), .val (.int x1), .val (.ref x2), .val (.int x3), .unset] [] := by first | (simp [entryFrame, mkF, argsToLocals, Value.category]; done) | rfl
def Q_gat10 (Z : State) (a : Addr) (st : Addr) (ap : Addr) (as : Addr) (aq : Addr) (ax : Addr) (ak : Addr) (ag : Addr) (ab : Addr) (oo : Int32) (GG : List Int64) (ST : List Int64) (h0 : Heap) (n0 : Nat) (F : List (Addr × OObj)) (v : Option Value) (h : Heap) (L : List Loc) : Prop := v = none ∧ Fr n0 L ∧ OView Z n0 h (oP a [(.ref ap), (.ref as), (.ref aq), (.ref ax), (.ref ak), (.int (1 : Int32)), (.ref ag), (.ref ab), (.int (2 : Int32))] :: oB ag (sj GG (0 : Int32) ((gj GG (0 : Int32)) ||| (gj ST (oo + (0 : Int32))))) :: oB st ST :: F) ∧ Old Z n0 h
set_option maxRecDepth 65536 in
set_option maxHeartbeats 40000000 in
theorem rm_gat10 (l : Launch) (Z : State) (a0 : Array Value) (hw : ∀ d ∈ tables_1, d.before a0 Z = true) (ws : List Jvm.Cond) (a : Addr) (st : Addr) (ap : Addr) (as : Addr) (aq : Addr) (ax : Addr) (ak : Addr) (ag : Addr) (ab : Addr) (oo : Int32) (GG : List Int64) (ST : List Int64) (h0 : Heap) (n0 : Nat) (F : List (Addr × OObj)) (Z0 : n0 ≤ h0.size) (hlG : GG.length = 16) (hlS : ST.length = 4) (hi0 : inb 4 (oo + (0 : Int32))) (V0 : OView Z n0 h0 (oP a [(.ref ap), (.ref as), (.ref aq), (.ref ax), (.ref ak), (.int (1 : Int32)), (.ref ag), (.ref ab), (.int (2 : Int32))] :: oB ag GG :: oB st ST :: F)) (O0 : Old Z n0 h0) :
    MetFree l (⟨"com/example/inya/inya/SearchPath", "gather", "(I[JI)V"⟩ : MethodName) (head1 (Jvm.Cond.code (⟨"com/example/inya/inya/SearchPath", "gather", "(I[JI)V"⟩ : MethodName) prog_71_method_13_code 5 none :: ws) ({ frames := 0, cells := 0, slots := 0, locals := 0 } : Room)) (fun a_ U => a_ = #[(.ref a), (.int (0 : Int32)), (.ref st), (.int oo)] ∧ Z.Warmed39 U.vm ∧ U.heap = h0) (fun _ _ _ _ _ => True) (fun _ U o U' => ∃ v L, o = .returned v ∧ Q_gat10 Z a st ap as aq ax ak ag ab oo GG ST h0 n0 F v U'.heap L ∧ FrameEnd U o U' L ({ frames := 0, cells := 0, slots := 0, locals := 0 } : Room).cells ({ frames := 0, cells := 0, slots := 0, locals := 0 } : Room).slots) := by
  refine MetFree.of_bodySF (plainFor_of_name pn_0) hisR ?_
  intro p e s m args below meth c s₁ Bd hml0 hP hK
  obtain ⟨rfl, hZ, hh⟩ := hP
  have hx := Bd.exec
  have hby := Bd.bytes
  have hlk : meth.locks = false := Bd.notSynchronized
  have hml : c.maxLocals = 5 := hml0
  have hown : s.vm.findClass "com/example/inya/inya/SearchPath" = some m.cls := findClass_of_methodNamed Bd.named
  have hnm := (name_of_methodNamed Bd.named Bd.method).1
  have X0 : Stand p l e ({ frames := 0, cells := 0, slots := 0, locals := 0 } : Room) s m #[(.ref a), (.int (0 : Int32)), (.ref st), (.int oo)] below meth c s₁ [] 0 0 := Stand.of_body Bd
  have e0 : s₁.heap = h0 := by rw [← hh, Bd.state]; rfl
  have N0 := Fr.nil n0
  show OGets p e below (OLeaves s (Q_gat10 Z a st ap as aq ax ak ag ab oo GG ST h0 n0 F ) ({ frames := 0, cells := 0, slots := 0, locals := 0 } : Room).cells ({ frames := 0, cells := 0, slots := 0, locals := 0 } : Room).slots) _
  refine OGets.enter (ef_gat10 m a (0 : Int32) st oo) ?_
  show OGets p e below _ (s₁.setTop (mkF m 0 #[rv a, iv (0 : Int32), rv st, iv oo, uv] []))
  refine OGets.step (fun _ => XS.iconst X0.here hx rfl (hb hby d71m13_0)) ?_
  refine OGets.step (fun _ => XS.istore X0.here hx rfl (hb hby d71m13_1) rfl (l' := #[rv a, iv (0 : Int32), rv st, iv oo, iv (0 : Int32)]) rfl) ?_
  refine OGets.step (fun _ => XS.iload X0.here hx rfl (hb hby d71m13_3) rfl) ?_
  refine OGets.step (fun _ => XS.aloadN X0.here hx rfl (hb hby d71m13_5) rfl rfl) ?_
  obtain ⟨T207, X207, e207, st207⟩ := getF X0 hx hZ hown (host := "") (Or.inl (ow hw 23 rfl)) Via.refl e0 (V0.fld 0 rfl 5 rfl rfl) (g := (mkF m 6 #[rv a, iv (0 : Int32), rv st, iv oo, iv (0 : Int32)] [(.ref a), (.int (0 : Int32))])) rfl rfl (hb hby d71m13_6)
  refine OGets.step st207 ?_
  refine OGets.step (fun _ => XS.icmpNo X207.here hx rfl (hb hby d71m13_9) rfl (tlt (by decide : (0 : Int32) < (1 : Int32))).2.1) ?_
  refine OGets.step (fun _ => XS.aloadN X207.here hx rfl (hb hby d71m13_12) rfl rfl) ?_
  obtain ⟨T209, X209, e209, st209⟩ := getF X207 hx hZ hown (host := "") (Or.inl (ow hw 25 rfl)) Via.refl e207 (V0.fld 0 rfl 6 rfl rfl) (g := (mkF m 13 #[rv a, iv (0 : Int32), rv st, iv oo, iv (0 : Int32)] [(.ref a)])) rfl rfl (hb hby d71m13_13)
  refine OGets.step st209 ?_
  refine OGets.step (fun _ => XS.iloadN X209.here hx rfl (hb hby d71m13_16) rfl) ?_
  refine OGets.step (fun _ => XS.aloadN X209.here hx rfl (hb hby d71m13_17) rfl rfl) ?_
  obtain ⟨T210, X210, e210, st210⟩ := getF X209 hx hZ hown (host := "") (Or.inl (ow hw 23 rfl)) Via.refl e209 (V0.fld 0 rfl 5 rfl rfl) (g := (mkF m 18 #[rv a, iv (0 : Int32), rv st, iv oo, iv (0 : Int32)] [(.ref a), (.int (0 : Int32)), (.ref ag)])) rfl rfl (hb hby d71m13_18)
  refine OGets.step st210 ?_
  refine OGets.step (fun _ => XS.imul X210.here hx rfl (hb hby d71m13_21) rfl) ?_
  show OGets p e below _ (T210.setTop (mkF m 22 #[rv a, iv (0 : Int32), rv st, iv oo, iv (0 : Int32)] [(.int (0 : Int32)), (.ref ag)]))
  refine OGets.step (fun _ => XS.iload X210.here hx rfl (hb hby d71m13_22) rfl) ?_
  refine OGets.step (fun _ => XS.iadd X210.here hx rfl (hb hby d71m13_24) rfl) ?_
  show OGets p e below _ (T210.setTop (mkF m 25 #[rv a, iv (0 : Int32), rv st, iv oo, iv (0 : Int32)] [(.int (0 : Int32)), (.ref ag)]))
  refine OGets.step (U' := T210.setTop (mkF m 26 #[rv a, iv (0 : Int32), rv st, iv oo, iv (0 : Int32)] [(.int (0 : Int32)), (.ref ag), (.int (0 : Int32)), (.ref ag)])) (fun t kt => ?_) ?_
  · jvm_step X210.here [X210.here.top, hx, (hb hby d71m13_25), Value.category]
    exact kt
  obtain ⟨cl211, Ar211, S211⟩ := V0.arr 1 rfl
  refine OGets.step (fun _ => X210.laload hx (j := (0 : Int32)) (v := (.long (gj GG (0 : Int32)))) (by rw [e210]; exact Ar211.1) (State.isArrayOf_alike hZ.alike Ar211.2.1) Ar211.2.2 (own_sin (n := 16) S211 (by simp only [List.length_map, si_len, sj_len, List.length_replicate, hlG]) (by decide)) (own_sgetJ (n := 16) S211 (by simp only [List.length_map, si_len, sj_len, List.length_replicate, hlG]) (by decide)) (g := (mkF m 26 #[rv a, iv (0 : Int32), rv st, iv oo, iv (0 : Int32)] [(.int (0 : Int32)), (.ref ag), (.int (0 : Int32)), (.ref ag)])) rfl rfl (hb hby d71m13_26) _) ?_
  refine OGets.step (fun _ => XS.aloadN X210.here hx rfl (hb hby d71m13_27) rfl rfl) ?_
  refine OGets.step (fun _ => XS.iloadN X210.here hx rfl (hb hby d71m13_28) rfl) ?_
  refine OGets.step (fun _ => XS.iload X210.here hx rfl (hb hby d71m13_29) rfl) ?_
  refine OGets.step (fun _ => XS.iadd X210.here hx rfl (hb hby d71m13_31) rfl) ?_
  show OGets p e below _ (T210.setTop (mkF m 32 #[rv a, iv (0 : Int32), rv st, iv oo, iv (0 : Int32)] [(.int (oo + (0 : Int32))), (.ref st), (.long (gj GG (0 : Int32))), (.int (0 : Int32)), (.ref ag)]))
  obtain ⟨cl212, Ar212, S212⟩ := V0.arr 2 rfl
  refine OGets.step (fun _ => X210.laload hx (j := (oo + (0 : Int32))) (v := (.long (gj ST (oo + (0 : Int32))))) (by rw [e210]; exact Ar212.1) (State.isArrayOf_alike hZ.alike Ar212.2.1) Ar212.2.2 (own_sin (n := 4) S212 (by simp only [List.length_map, si_len, sj_len, List.length_replicate, hlS]) hi0) (own_sgetJ (n := 4) S212 (by simp only [List.length_map, si_len, sj_len, List.length_replicate, hlS]) hi0) (g := (mkF m 32 #[rv a, iv (0 : Int32), rv st, iv oo, iv (0 : Int32)] [(.int (oo + (0 : Int32))), (.ref st), (.long (gj GG (0 : Int32))), (.int (0 : Int32)), (.ref ag)])) rfl rfl (hb hby d71m13_32) _) ?_
  refine OGets.step (fun _ => XS.lor X210.here hx rfl (hb hby d71m13_33) rfl) ?_
  obtain ⟨cl213, Ar213, S213⟩ := V0.arr 1 rfl
  obtain ⟨T213, h213, X213, e213, W213, st213⟩ := stJ X210 hx hZ e210 Ar213 (j := (0 : Int32)) (own_sin (n := 16) S213 (by simp only [List.length_map, si_len, sj_len, List.length_replicate, hlG]) (by decide)) (g := (mkF m 34 #[rv a, iv (0 : Int32), rv st, iv oo, iv (0 : Int32)] [(.long ((gj GG (0 : Int32)) ||| (gj ST (oo + (0 : Int32))))), (.int (0 : Int32)), (.ref ag)])) rfl rfl (hb hby d71m13_34)
  have V213 : OView Z n0 h213 (oP a [(.ref ap), (.ref as), (.ref aq), (.ref ax), (.ref ak), (.int (1 : Int32)), (.ref ag), (.ref ab), (.int (2 : Int32))] :: oB ag (sj GG (0 : Int32) ((gj GG (0 : Int32)) ||| (gj ST (oo + (0 : Int32))))) :: oB st ST :: F) := V0.putJ 1 rfl W213
  have N213 := Fr.snoc X213 N0 (V0.old 1 rfl)
  have Z213 : n0 ≤ h213.size := by rw [W213.size]; exact Z0
  have O213 := O0.wr W213 (V0.old 1 rfl)
  refine OGets.step st213 ?_
  refine OGets.step (fun _ => XS.iinc X213.here hx rfl (hb hby d71m13_35) rfl (l' := #[rv a, iv (0 : Int32), rv st, iv oo, iv (1 : Int32)]) rfl) ?_
  refine OGets.step (fun _ => XS.goto X213.here hx rfl (pc0 := 38) (pc' := 3) rfl (hb hby d71m13_38) (by decide) (by decide)) ?_
  refine OGets.step (fun _ => XS.iload X213.here hx rfl (hb hby d71m13_3) rfl) ?_
  refine OGets.step (fun _ => XS.aloadN X213.here hx rfl (hb hby d71m13_5) rfl rfl) ?_
  obtain ⟨T214, X214, e214, st214⟩ := getF X213 hx hZ hown (host := "") (Or.inl (ow hw 23 rfl)) Via.refl e213 (V213.fld 0 rfl 5 rfl rfl) (g := (mkF m 6 #[rv a, iv (0 : Int32), rv st, iv oo, iv (1 : Int32)] [(.ref a), (.int (1 : Int32))])) rfl rfl (hb hby d71m13_6)
  refine OGets.step st214 ?_
  refine OGets.step (fun _ => XS.icmpYes X214.here hx rfl (pc0 := 9) (pc' := 41) rfl (hb hby d71m13_9) rfl (flt (by decide : ¬ ((1 : Int32) < (1 : Int32)))).2.1 (by decide) (by decide)) ?_
  refine OGets.retV X214 hx hlk Bd.returns (hb hby d71m13_41) (Nat.le_of_ble_eq_true rfl) (Nat.le_of_ble_eq_true rfl) ?_
  rw [e214]
  exact ⟨rfl, N213, V213, O213⟩
theorem ef_gat11 (m : MethodId) (x0 : Addr) (x1 : Int32) (x2 : Addr) (x3 : Int32) : entryFrame m #[(.ref x0), (.int x1), (.ref x2), (.int x3)] 5 = mkF m 0 #[.val (.ref x0), .val (.int x1), .val (.ref x2), .val (.int x3), .unset] [] := by first | (simp [entryFrame, mkF, argsToLocals, Value.category]; done) | rfl
def Q_gat11 (Z : State) (a : Addr) (st : Addr) (ap : Addr) (as : Addr) (aq : Addr) (ax : Addr) (ak : Addr) (ag : Addr) (ab : Addr) (oo : Int32) (GG : List Int64) (ST : List Int64) (h0 : Heap) (n0 : Nat) (F : List (Addr × OObj)) (v : Option Value) (h : Heap) (L : List Loc) : Prop := v = none ∧ Fr n0 L ∧ OView Z n0 h (oP a [(.ref ap), (.ref as), (.ref aq), (.ref ax), (.ref ak), (.int (1 : Int32)), (.ref ag), (.ref ab), (.int (2 : Int32))] :: oB ag (sj GG (1 : Int32) ((gj GG (1 : Int32)) ||| (gj ST (oo + (0 : Int32))))) :: oB st ST :: F) ∧ Old Z n0 h
set_option maxRecDepth 65536 in
set_option maxHeartbeats 40000000 in
theorem rm_gat11 (l : Launch) (Z : State) (a0 : Array Value) (hw : ∀ d ∈ tables_1, d.before a0 Z = true) (ws : List Jvm.Cond) (a : Addr) (st : Addr) (ap : Addr) (as : Addr) (aq : Addr) (ax : Addr) (ak : Addr) (ag : Addr) (ab : Addr) (oo : Int32) (GG : List Int64) (ST : List Int64) (h0 : Heap) (n0 : Nat) (F : List (Addr × OObj)) (Z0 : n0 ≤ h0.size) (hlG : GG.length = 16) (hlS : ST.length = 4) (hi0 : inb 4 (oo + (0 : Int32))) (V0 : OView Z n0 h0 (oP a [(.ref ap), (.ref as), (.ref aq), (.ref ax), (.ref ak), (.int (1 : Int32)), (.ref ag), (.ref ab), (.int (2 : Int32))] :: oB ag GG :: oB st ST :: F)) (O0 : Old Z n0 h0) :
    MetFree l (⟨"com/example/inya/inya/SearchPath", "gather", "(I[JI)V"⟩ : MethodName) (head1 (Jvm.Cond.code (⟨"com/example/inya/inya/SearchPath", "gather", "(I[JI)V"⟩ : MethodName) prog_71_method_13_code 5 none :: ws) ({ frames := 0, cells := 0, slots := 0, locals := 0 } : Room)) (fun a_ U => a_ = #[(.ref a), (.int (1 : Int32)), (.ref st), (.int oo)] ∧ Z.Warmed39 U.vm ∧ U.heap = h0) (fun _ _ _ _ _ => True) (fun _ U o U' => ∃ v L, o = .returned v ∧ Q_gat11 Z a st ap as aq ax ak ag ab oo GG ST h0 n0 F v U'.heap L ∧ FrameEnd U o U' L ({ frames := 0, cells := 0, slots := 0, locals := 0 } : Room).cells ({ frames := 0, cells := 0, slots := 0, locals := 0 } : Room).slots) := by
  refine MetFree.of_bodySF (plainFor_of_name pn_0) hisR ?_
  intro p e s m args below meth c s₁ Bd hml0 hP hK
  obtain ⟨rfl, hZ, hh⟩ := hP
  have hx := Bd.exec
  have hby := Bd.bytes
  have hlk : meth.locks = false := Bd.notSynchronized
  have hml : c.maxLocals = 5 := hml0
  have hown : s.vm.findClass "com/example/inya/inya/SearchPath" = some m.cls := findClass_of_methodNamed Bd.named
  have hnm := (name_of_methodNamed Bd.named Bd.method).1
  have X0 : Stand p l e ({ frames := 0, cells := 0, slots := 0, locals := 0 } : Room) s m #[(.ref a), (.int (1 : Int32)), (.ref st), (.int oo)] below meth c s₁ [] 0 0 := Stand.of_body Bd
  have e0 : s₁.heap = h0 := by rw [← hh, Bd.state]; rfl
  have N0 := Fr.nil n0
  show OGets p e below (OLeaves s (Q_gat11 Z a st ap as aq ax ak ag ab oo GG ST h0 n0 F ) ({ frames := 0, cells := 0, slots := 0, locals := 0 } : Room).cells ({ frames := 0, cells := 0, slots := 0, locals := 0 } : Room).slots) _
  refine OGets.enter (ef_gat11 m a (1 : Int32) st oo) ?_
  show OGets p e below _ (s₁.setTop (mkF m 0 #[rv a, iv (1 : Int32), rv st, iv oo, uv] []))
  refine OGets.step (fun _ => XS.iconst X0.here hx rfl (hb hby d71m13_0)) ?_
  refine OGets.step (fun _ => XS.istore X0.here hx rfl (hb hby d71m13_1) rfl (l' := #[rv a, iv (1 : Int32), rv st, iv oo, iv (0 : Int32)]) rfl) ?_
  refine OGets.step (fun _ => XS.iload X0.here hx rfl (hb hby d71m13_3) rfl) ?_
  refine OGets.step (fun _ => XS.aloadN X0.here hx rfl (hb hby d71m13_5) rfl rfl) ?_
  obtain ⟨T216, X216, e216, st216⟩ := getF X0 hx hZ hown (host := "") (Or.inl (ow hw 23 rfl)) Via.refl e0 (V0.fld 0 rfl 5 rfl rfl) (g := (mkF m 6 #[rv a, iv (1 : Int32), rv st, iv oo, iv (0 : Int32)] [(.ref a), (.int (0 : Int32))])) rfl rfl (hb hby d71m13_6)
  refine OGets.step st216 ?_
  refine OGets.step (fun _ => XS.icmpNo X216.here hx rfl (hb hby d71m13_9) rfl (tlt (by decide : (0 : Int32) < (1 : Int32))).2.1) ?_
  refine OGets.step (fun _ => XS.aloadN X216.here hx rfl (hb hby d71m13_12) rfl rfl) ?_
  obtain ⟨T218, X218, e218, st218⟩ := getF X216 hx hZ hown (host := "") (Or.inl (ow hw 25 rfl)) Via.refl e216 (V0.fld 0 rfl 6 rfl rfl) (g := (mkF m 13 #[rv a, iv (1 : Int32), rv st, iv oo, iv (0 : Int32)] [(.ref a)])) rfl rfl (hb hby d71m13_13)
  refine OGets.step st218 ?_
  refine OGets.step (fun _ => XS.iloadN X218.here hx rfl (hb hby d71m13_16) rfl) ?_
  refine OGets.step (fun _ => XS.aloadN X218.here hx rfl (hb hby d71m13_17) rfl rfl) ?_
  obtain ⟨T219, X219, e219, st219⟩ := getF X218 hx hZ hown (host := "") (Or.inl (ow hw 23 rfl)) Via.refl e218 (V0.fld 0 rfl 5 rfl rfl) (g := (mkF m 18 #[rv a, iv (1 : Int32), rv st, iv oo, iv (0 : Int32)] [(.ref a), (.int (1 : Int32)), (.ref ag)])) rfl rfl (hb hby d71m13_18)
  refine OGets.step st219 ?_
  refine OGets.step (fun _ => XS.imul X219.here hx rfl (hb hby d71m13_21) rfl) ?_
  show OGets p e below _ (T219.setTop (mkF m 22 #[rv a, iv (1 : Int32), rv st, iv oo, iv (0 : Int32)] [(.int (1 : Int32)), (.ref ag)]))
  refine OGets.step (fun _ => XS.iload X219.here hx rfl (hb hby d71m13_22) rfl) ?_
  refine OGets.step (fun _ => XS.iadd X219.here hx rfl (hb hby d71m13_24) rfl) ?_
  show OGets p e below _ (T219.setTop (mkF m 25 #[rv a, iv (1 : Int32), rv st, iv oo, iv (0 : Int32)] [(.int (1 : Int32)), (.ref ag)]))
  refine OGets.step (U' := T219.setTop (mkF m 26 #[rv a, iv (1 : Int32), rv st, iv oo, iv (0 : Int32)] [(.int (1 : Int32)), (.ref ag), (.int (1 : Int32)), (.ref ag)])) (fun t kt => ?_) ?_
  · jvm_step X219.here [X219.here.top, hx, (hb hby d71m13_25), Value.category]
    exact kt
  obtain ⟨cl220, Ar220, S220⟩ := V0.arr 1 rfl
  refine OGets.step (fun _ => X219.laload hx (j := (1 : Int32)) (v := (.long (gj GG (1 : Int32)))) (by rw [e219]; exact Ar220.1) (State.isArrayOf_alike hZ.alike Ar220.2.1) Ar220.2.2 (own_sin (n := 16) S220 (by simp only [List.length_map, si_len, sj_len, List.length_replicate, hlG]) (by decide)) (own_sgetJ (n := 16) S220 (by simp only [List.length_map, si_len, sj_len, List.length_replicate, hlG]) (by decide)) (g := (mkF m 26 #[rv a, iv (1 : Int32), rv st, iv oo, iv (0 : Int32)] [(.int (1 : Int32)), (.ref ag), (.int (1 : Int32)), (.ref ag)])) rfl rfl (hb hby d71m13_26) _) ?_
  refine OGets.step (fun _ => XS.aloadN X219.here hx rfl (hb hby d71m13_27) rfl rfl) ?_
  refine OGets.step (fun _ => XS.iloadN X219.here hx rfl (hb hby d71m13_28) rfl) ?_
  refine OGets.step (fun _ => XS.iload X219.here hx rfl (hb hby d71m13_29) rfl) ?_
  refine OGets.step (fun _ => XS.iadd X219.here hx rfl (hb hby d71m13_31) rfl) ?_
  show OGets p e below _ (T219.setTop (mkF m 32 #[rv a, iv (1 : Int32), rv st, iv oo, iv (0 : Int32)] [(.int (oo + (0 : Int32))), (.ref st), (.long (gj GG (1 : Int32))), (.int (1 : Int32)), (.ref ag)]))
  obtain ⟨cl221, Ar221, S221⟩ := V0.arr 2 rfl
  refine OGets.step (fun _ => X219.laload hx (j := (oo + (0 : Int32))) (v := (.long (gj ST (oo + (0 : Int32))))) (by rw [e219]; exact Ar221.1) (State.isArrayOf_alike hZ.alike Ar221.2.1) Ar221.2.2 (own_sin (n := 4) S221 (by simp only [List.length_map, si_len, sj_len, List.length_replicate, hlS]) hi0) (own_sgetJ (n := 4) S221 (by simp only [List.length_map, si_len, sj_len, List.length_replicate, hlS]) hi0) (g := (mkF m 32 #[rv a, iv (1 : Int32), rv st, iv oo, iv (0 : Int32)] [(.int (oo + (0 : Int32))), (.ref st), (.long (gj GG (1 : Int32))), (.int (1 : Int32)), (.ref ag)])) rfl rfl (hb hby d71m13_32) _) ?_
  refine OGets.step (fun _ => XS.lor X219.here hx rfl (hb hby d71m13_33) rfl) ?_
  obtain ⟨cl222, Ar222, S222⟩ := V0.arr 1 rfl
  obtain ⟨T222, h222, X222, e222, W222, st222⟩ := stJ X219 hx hZ e219 Ar222 (j := (1 : Int32)) (own_sin (n := 16) S222 (by simp only [List.length_map, si_len, sj_len, List.length_replicate, hlG]) (by decide)) (g := (mkF m 34 #[rv a, iv (1 : Int32), rv st, iv oo, iv (0 : Int32)] [(.long ((gj GG (1 : Int32)) ||| (gj ST (oo + (0 : Int32))))), (.int (1 : Int32)), (.ref ag)])) rfl rfl (hb hby d71m13_34)
  have V222 : OView Z n0 h222 (oP a [(.ref ap), (.ref as), (.ref aq), (.ref ax), (.ref ak), (.int (1 : Int32)), (.ref ag), (.ref ab), (.int (2 : Int32))] :: oB ag (sj GG (1 : Int32) ((gj GG (1 : Int32)) ||| (gj ST (oo + (0 : Int32))))) :: oB st ST :: F) := V0.putJ 1 rfl W222
  have N222 := Fr.snoc X222 N0 (V0.old 1 rfl)
  have Z222 : n0 ≤ h222.size := by rw [W222.size]; exact Z0
  have O222 := O0.wr W222 (V0.old 1 rfl)
  refine OGets.step st222 ?_
  refine OGets.step (fun _ => XS.iinc X222.here hx rfl (hb hby d71m13_35) rfl (l' := #[rv a, iv (1 : Int32), rv st, iv oo, iv (1 : Int32)]) rfl) ?_
  refine OGets.step (fun _ => XS.goto X222.here hx rfl (pc0 := 38) (pc' := 3) rfl (hb hby d71m13_38) (by decide) (by decide)) ?_
  refine OGets.step (fun _ => XS.iload X222.here hx rfl (hb hby d71m13_3) rfl) ?_
  refine OGets.step (fun _ => XS.aloadN X222.here hx rfl (hb hby d71m13_5) rfl rfl) ?_
  obtain ⟨T223, X223, e223, st223⟩ := getF X222 hx hZ hown (host := "") (Or.inl (ow hw 23 rfl)) Via.refl e222 (V222.fld 0 rfl 5 rfl rfl) (g := (mkF m 6 #[rv a, iv (1 : Int32), rv st, iv oo, iv (1 : Int32)] [(.ref a), (.int (1 : Int32))])) rfl rfl (hb hby d71m13_6)
  refine OGets.step st223 ?_
  refine OGets.step (fun _ => XS.icmpYes X223.here hx rfl (pc0 := 9) (pc' := 41) rfl (hb hby d71m13_9) rfl (flt (by decide : ¬ ((1 : Int32) < (1 : Int32)))).2.1 (by decide) (by decide)) ?_
  refine OGets.retV X223 hx hlk Bd.returns (hb hby d71m13_41) (Nat.le_of_ble_eq_true rfl) (Nat.le_of_ble_eq_true rfl) ?_
  rw [e223]
  exact ⟨rfl, N222, V222, O222⟩
theorem ef_gat20 (m : MethodId) (x0 : Addr) (x1 : Int32) (x2 : Addr) (x3 : Int32) : entryFrame m #[(.ref x0), (.int x1), (.ref x2), (.int x3)] 5 = mkF m 0 #[.val (.ref x0), .val (.int x1), .val (.ref x2), .val (.int x3), .unset] [] := by first | (simp [entryFrame, mkF, argsToLocals, Value.category]; done) | rfl
def Q_gat20 (Z : State) (a : Addr) (st : Addr) (ap : Addr) (as : Addr) (aq : Addr) (ax : Addr) (ak : Addr) (ag : Addr) (ab : Addr) (oo : Int32) (GG : List Int64) (ST : List Int64) (h0 : Heap) (n0 : Nat) (F : List (Addr × OObj)) (v : Option Value) (h : Heap) (L : List Loc) : Prop := v = none ∧ Fr n0 L ∧ OView Z n0 h (oP a [(.ref ap), (.ref as), (.ref aq), (.ref ax), (.ref ak), (.int (2 : Int32)), (.ref ag), (.ref ab), (.int (2 : Int32))] :: oB ag (sj (sj GG (0 : Int32) ((gj GG (0 : Int32)) ||| (gj ST (oo + (0 : Int32))))) (1 : Int32) ((gj (sj GG (0 : Int32) ((gj GG (0 : Int32)) ||| (gj ST (oo + (0 : Int32))))) (1 : Int32)) ||| (gj ST (oo + (1 : Int32))))) :: oB st ST :: F) ∧ Old Z n0 h
set_option maxRecDepth 65536 in
set_option maxHeartbeats 40000000 in
theorem rm_gat20 (l : Launch) (Z : State) (a0 : Array Value) (hw : ∀ d ∈ tables_1, d.before a0 Z = true) (ws : List Jvm.Cond) (a : Addr) (st : Addr) (ap : Addr) (as : Addr) (aq : Addr) (ax : Addr) (ak : Addr) (ag : Addr) (ab : Addr) (oo : Int32) (GG : List Int64) (ST : List Int64) (h0 : Heap) (n0 : Nat) (F : List (Addr × OObj)) (Z0 : n0 ≤ h0.size) (hlG : GG.length = 32) (hlS : ST.length = 4) (hi0 : inb 4 (oo + (0 : Int32))) (hi1 : inb 4 (oo + (1 : Int32))) (V0 : OView Z n0 h0 (oP a [(.ref ap), (.ref as), (.ref aq), (.ref ax), (.ref ak), (.int (2 : Int32)), (.ref ag), (.ref ab), (.int (2 : Int32))] :: oB ag GG :: oB st ST :: F)) (O0 : Old Z n0 h0) :
    MetFree l (⟨"com/example/inya/inya/SearchPath", "gather", "(I[JI)V"⟩ : MethodName) (head1 (Jvm.Cond.code (⟨"com/example/inya/inya/SearchPath", "gather", "(I[JI)V"⟩ : MethodName) prog_71_method_13_code 5 none :: ws) ({ frames := 0, cells := 0, slots := 0, locals := 0 } : Room)) (fun a_ U => a_ = #[(.ref a), (.int (0 : Int32)), (.ref st), (.int oo)] ∧ Z.Warmed39 U.vm ∧ U.heap = h0) (fun _ _ _ _ _ => True) (fun _ U o U' => ∃ v L, o = .returned v ∧ Q_gat20 Z a st ap as aq ax ak ag ab oo GG ST h0 n0 F v U'.heap L ∧ FrameEnd U o U' L ({ frames := 0, cells := 0, slots := 0, locals := 0 } : Room).cells ({ frames := 0, cells := 0, slots := 0, locals := 0 } : Room).slots) := by
  refine MetFree.of_bodySF (plainFor_of_name pn_0) hisR ?_
  intro p e s m args below meth c s₁ Bd hml0 hP hK
  obtain ⟨rfl, hZ, hh⟩ := hP
  have hx := Bd.exec
  have hby := Bd.bytes
  have hlk : meth.locks = false := Bd.notSynchronized
  have hml : c.maxLocals = 5 := hml0
  have hown : s.vm.findClass "com/example/inya/inya/SearchPath" = some m.cls := findClass_of_methodNamed Bd.named
  have hnm := (name_of_methodNamed Bd.named Bd.method).1
  have X0 : Stand p l e ({ frames := 0, cells := 0, slots := 0, locals := 0 } : Room) s m #[(.ref a), (.int (0 : Int32)), (.ref st), (.int oo)] below meth c s₁ [] 0 0 := Stand.of_body Bd
  have e0 : s₁.heap = h0 := by rw [← hh, Bd.state]; rfl
  have N0 := Fr.nil n0
  show OGets p e below (OLeaves s (Q_gat20 Z a st ap as aq ax ak ag ab oo GG ST h0 n0 F ) ({ frames := 0, cells := 0, slots := 0, locals := 0 } : Room).cells ({ frames := 0, cells := 0, slots := 0, locals := 0 } : Room).slots) _
  refine OGets.enter (ef_gat20 m a (0 : Int32) st oo) ?_
  show OGets p e below _ (s₁.setTop (mkF m 0 #[rv a, iv (0 : Int32), rv st, iv oo, uv] []))
  refine OGets.step (fun _ => XS.iconst X0.here hx rfl (hb hby d71m13_0)) ?_
  refine OGets.step (fun _ => XS.istore X0.here hx rfl (hb hby d71m13_1) rfl (l' := #[rv a, iv (0 : Int32), rv st, iv oo, iv (0 : Int32)]) rfl) ?_
  refine OGets.step (fun _ => XS.iload X0.here hx rfl (hb hby d71m13_3) rfl) ?_
  refine OGets.step (fun _ => XS.aloadN X0.here hx rfl (hb hby d71m13_5) rfl rfl) ?_
  obtain ⟨T225, X225, e225, st225⟩ := getF X0 hx hZ hown (host := "") (Or.inl (ow hw 23 rfl)) Via.refl e0 (V0.fld 0 rfl 5 rfl rfl) (g := (mkF m 6 #[rv a, iv (0 : Int32), rv st, iv oo, iv (0 : Int32)] [(.ref a), (.int (0 : Int32))])) rfl rfl (hb hby d71m13_6)
  refine OGets.step st225 ?_
  refine OGets.step (fun _ => XS.icmpNo X225.here hx rfl (hb hby d71m13_9) rfl (tlt (by decide : (0 : Int32) < (2 : Int32))).2.1) ?_
  refine OGets.step (fun _ => XS.aloadN X225.here hx rfl (hb hby d71m13_12) rfl rfl) ?_
  obtain ⟨T227, X227, e227, st227⟩ := getF X225 hx hZ hown (host := "") (Or.inl (ow hw 25 rfl)) Via.refl e225 (V0.fld 0 rfl 6 rfl rfl) (g := (mkF m 13 #[rv a, iv (0 : Int32), rv st, iv oo, iv (0 : Int32)] [(.ref a)])) rfl rfl (hb hby d71m13_13)
  refine OGets.step st227 ?_
  refine OGets.step (fun _ => XS.iloadN X227.here hx rfl (hb hby d71m13_16) rfl) ?_
  refine OGets.step (fun _ => XS.aloadN X227.here hx rfl (hb hby d71m13_17) rfl rfl) ?_
  obtain ⟨T228, X228, e228, st228⟩ := getF X227 hx hZ hown (host := "") (Or.inl (ow hw 23 rfl)) Via.refl e227 (V0.fld 0 rfl 5 rfl rfl) (g := (mkF m 18 #[rv a, iv (0 : Int32), rv st, iv oo, iv (0 : Int32)] [(.ref a), (.int (0 : Int32)), (.ref ag)])) rfl rfl (hb hby d71m13_18)
  refine OGets.step st228 ?_
  refine OGets.step (fun _ => XS.imul X228.here hx rfl (hb hby d71m13_21) rfl) ?_
  show OGets p e below _ (T228.setTop (mkF m 22 #[rv a, iv (0 : Int32), rv st, iv oo, iv (0 : Int32)] [(.int (0 : Int32)), (.ref ag)]))
  refine OGets.step (fun _ => XS.iload X228.here hx rfl (hb hby d71m13_22) rfl) ?_
  refine OGets.step (fun _ => XS.iadd X228.here hx rfl (hb hby d71m13_24) rfl) ?_
  show OGets p e below _ (T228.setTop (mkF m 25 #[rv a, iv (0 : Int32), rv st, iv oo, iv (0 : Int32)] [(.int (0 : Int32)), (.ref ag)]))
  refine OGets.step (U' := T228.setTop (mkF m 26 #[rv a, iv (0 : Int32), rv st, iv oo, iv (0 : Int32)] [(.int (0 : Int32)), (.ref ag), (.int (0 : Int32)), (.ref ag)])) (fun t kt => ?_) ?_
  · jvm_step X228.here [X228.here.top, hx, (hb hby d71m13_25), Value.category]
    exact kt
  obtain ⟨cl229, Ar229, S229⟩ := V0.arr 1 rfl
  refine OGets.step (fun _ => X228.laload hx (j := (0 : Int32)) (v := (.long (gj GG (0 : Int32)))) (by rw [e228]; exact Ar229.1) (State.isArrayOf_alike hZ.alike Ar229.2.1) Ar229.2.2 (own_sin (n := 32) S229 (by simp only [List.length_map, si_len, sj_len, List.length_replicate, hlG]) (by decide)) (own_sgetJ (n := 32) S229 (by simp only [List.length_map, si_len, sj_len, List.length_replicate, hlG]) (by decide)) (g := (mkF m 26 #[rv a, iv (0 : Int32), rv st, iv oo, iv (0 : Int32)] [(.int (0 : Int32)), (.ref ag), (.int (0 : Int32)), (.ref ag)])) rfl rfl (hb hby d71m13_26) _) ?_
  refine OGets.step (fun _ => XS.aloadN X228.here hx rfl (hb hby d71m13_27) rfl rfl) ?_
  refine OGets.step (fun _ => XS.iloadN X228.here hx rfl (hb hby d71m13_28) rfl) ?_
  refine OGets.step (fun _ => XS.iload X228.here hx rfl (hb hby d71m13_29) rfl) ?_
  refine OGets.step (fun _ => XS.iadd X228.here hx rfl (hb hby d71m13_31) rfl) ?_
  show OGets p e below _ (T228.setTop (mkF m 32 #[rv a, iv (0 : Int32), rv st, iv oo, iv (0 : Int32)] [(.int (oo + (0 : Int32))), (.ref st), (.long (gj GG (0 : Int32))), (.int (0 : Int32)), (.ref ag)]))
  obtain ⟨cl230, Ar230, S230⟩ := V0.arr 2 rfl
  refine OGets.step (fun _ => X228.laload hx (j := (oo + (0 : Int32))) (v := (.long (gj ST (oo + (0 : Int32))))) (by rw [e228]; exact Ar230.1) (State.isArrayOf_alike hZ.alike Ar230.2.1) Ar230.2.2 (own_sin (n := 4) S230 (by simp only [List.length_map, si_len, sj_len, List.length_replicate, hlS]) hi0) (own_sgetJ (n := 4) S230 (by simp only [List.length_map, si_len, sj_len, List.length_replicate, hlS]) hi0) (g := (mkF m 32 #[rv a, iv (0 : Int32), rv st, iv oo, iv (0 : Int32)] [(.int (oo + (0 : Int32))), (.ref st), (.long (gj GG (0 : Int32))), (.int (0 : Int32)), (.ref ag)])) rfl rfl (hb hby d71m13_32) _) ?_
  refine OGets.step (fun _ => XS.lor X228.here hx rfl (hb hby d71m13_33) rfl) ?_
  obtain ⟨cl231, Ar231, S231⟩ := V0.arr 1 rfl
  obtain ⟨T231, h231, X231, e231, W231, st231⟩ := stJ X228 hx hZ e228 Ar231 (j := (0 : Int32)) (own_sin (n := 32) S231 (by simp only [List.length_map, si_len, sj_len, List.length_replicate, hlG]) (by decide)) (g := (mkF m 34 #[rv a, iv (0 : Int32), rv st, iv oo, iv (0 : Int32)] [(.long ((gj GG (0 : Int32)) ||| (gj ST (oo + (0 : Int32))))), (.int (0 : Int32)), (.ref ag)])) rfl rfl (hb hby d71m13_34)
  have V231 : OView Z n0 h231 (oP a [(.ref ap), (.ref as), (.ref aq), (.ref ax), (.ref ak), (.int (2 : Int32)), (.ref ag), (.ref ab), (.int (2 : Int32))] :: oB ag (sj GG (0 : Int32) ((gj GG (0 : Int32)) ||| (gj ST (oo + (0 : Int32))))) :: oB st ST :: F) := V0.putJ 1 rfl W231
  have N231 := Fr.snoc X231 N0 (V0.old 1 rfl)
  have Z231 : n0 ≤ h231.size := by rw [W231.size]; exact Z0
  have O231 := O0.wr W231 (V0.old 1 rfl)
  refine OGets.step st231 ?_
  refine OGets.step (fun _ => XS.iinc X231.here hx rfl (hb hby d71m13_35) rfl (l' := #[rv a, iv (0 : Int32), rv st, iv oo, iv (1 : Int32)]) rfl) ?_
  refine OGets.step (fun _ => XS.goto X231.here hx rfl (pc0 := 38) (pc' := 3) rfl (hb hby d71m13_38) (by decide) (by decide)) ?_
  refine OGets.step (fun _ => XS.iload X231.here hx rfl (hb hby d71m13_3) rfl) ?_
  refine OGets.step (fun _ => XS.aloadN X231.here hx rfl (hb hby d71m13_5) rfl rfl) ?_
  obtain ⟨T232, X232, e232, st232⟩ := getF X231 hx hZ hown (host := "") (Or.inl (ow hw 23 rfl)) Via.refl e231 (V231.fld 0 rfl 5 rfl rfl) (g := (mkF m 6 #[rv a, iv (0 : Int32), rv st, iv oo, iv (1 : Int32)] [(.ref a), (.int (1 : Int32))])) rfl rfl (hb hby d71m13_6)
  refine OGets.step st232 ?_
  refine OGets.step (fun _ => XS.icmpNo X232.here hx rfl (hb hby d71m13_9) rfl (tlt (by decide : (1 : Int32) < (2 : Int32))).2.1) ?_
  refine OGets.step (fun _ => XS.aloadN X232.here hx rfl (hb hby d71m13_12) rfl rfl) ?_
  obtain ⟨T234, X234, e234, st234⟩ := getF X232 hx hZ hown (host := "") (Or.inl (ow hw 25 rfl)) Via.refl e232 (V231.fld 0 rfl 6 rfl rfl) (g := (mkF m 13 #[rv a, iv (0 : Int32), rv st, iv oo, iv (1 : Int32)] [(.ref a)])) rfl rfl (hb hby d71m13_13)
  refine OGets.step st234 ?_
  refine OGets.step (fun _ => XS.iloadN X234.here hx rfl (hb hby d71m13_16) rfl) ?_
  refine OGets.step (fun _ => XS.aloadN X234.here hx rfl (hb hby d71m13_17) rfl rfl) ?_
  obtain ⟨T235, X235, e235, st235⟩ := getF X234 hx hZ hown (host := "") (Or.inl (ow hw 23 rfl)) Via.refl e234 (V231.fld 0 rfl 5 rfl rfl) (g := (mkF m 18 #[rv a, iv (0 : Int32), rv st, iv oo, iv (1 : Int32)] [(.ref a), (.int (0 : Int32)), (.ref ag)])) rfl rfl (hb hby d71m13_18)
  refine OGets.step st235 ?_
  refine OGets.step (fun _ => XS.imul X235.here hx rfl (hb hby d71m13_21) rfl) ?_
  show OGets p e below _ (T235.setTop (mkF m 22 #[rv a, iv (0 : Int32), rv st, iv oo, iv (1 : Int32)] [(.int (0 : Int32)), (.ref ag)]))
  refine OGets.step (fun _ => XS.iload X235.here hx rfl (hb hby d71m13_22) rfl) ?_
  refine OGets.step (fun _ => XS.iadd X235.here hx rfl (hb hby d71m13_24) rfl) ?_
  show OGets p e below _ (T235.setTop (mkF m 25 #[rv a, iv (0 : Int32), rv st, iv oo, iv (1 : Int32)] [(.int (1 : Int32)), (.ref ag)]))
  refine OGets.step (U' := T235.setTop (mkF m 26 #[rv a, iv (0 : Int32), rv st, iv oo, iv (1 : Int32)] [(.int (1 : Int32)), (.ref ag), (.int (1 : Int32)), (.ref ag)])) (fun t kt => ?_) ?_
  · jvm_step X235.here [X235.here.top, hx, (hb hby d71m13_25), Value.category]
    exact kt
  obtain ⟨cl236, Ar236, S236⟩ := V231.arr 1 rfl
  refine OGets.step (fun _ => X235.laload hx (j := (1 : Int32)) (v := (.long (gj (sj GG (0 : Int32) ((gj GG (0 : Int32)) ||| (gj ST (oo + (0 : Int32))))) (1 : Int32)))) (by rw [e235]; exact Ar236.1) (State.isArrayOf_alike hZ.alike Ar236.2.1) Ar236.2.2 (own_sin (n := 32) S236 (by simp only [List.length_map, si_len, sj_len, List.length_replicate, hlG]) (by decide)) (own_sgetJ (n := 32) S236 (by simp only [List.length_map, si_len, sj_len, List.length_replicate, hlG]) (by decide)) (g := (mkF m 26 #[rv a, iv (0 : Int32), rv st, iv oo, iv (1 : Int32)] [(.int (1 : Int32)), (.ref ag), (.int (1 : Int32)), (.ref ag)])) rfl rfl (hb hby d71m13_26) _) ?_
  refine OGets.step (fun _ => XS.aloadN X235.here hx rfl (hb hby d71m13_27) rfl rfl) ?_
  refine OGets.step (fun _ => XS.iloadN X235.here hx rfl (hb hby d71m13_28) rfl) ?_
  refine OGets.step (fun _ => XS.iload X235.here hx rfl (hb hby d71m13_29) rfl) ?_
  refine OGets.step (fun _ => XS.iadd X235.here hx rfl (hb hby d71m13_31) rfl) ?_
  show OGets p e below _ (T235.setTop (mkF m 32 #[rv a, iv (0 : Int32), rv st, iv oo, iv (1 : Int32)] [(.int (oo + (1 : Int32))), (.ref st), (.long (gj (sj GG (0 : Int32) ((gj GG (0 : Int32)) ||| (gj ST (oo + (0 : Int32))))) (1 : Int32))), (.int (1 : Int32)), (.ref ag)]))
  obtain ⟨cl237, Ar237, S237⟩ := V231.arr 2 rfl
  refine OGets.step (fun _ => X235.laload hx (j := (oo + (1 : Int32))) (v := (.long (gj ST (oo + (1 : Int32))))) (by rw [e235]; exact Ar237.1) (State.isArrayOf_alike hZ.alike Ar237.2.1) Ar237.2.2 (own_sin (n := 4) S237 (by simp only [List.length_map, si_len, sj_len, List.length_replicate, hlS]) hi1) (own_sgetJ (n := 4) S237 (by simp only [List.length_map, si_len, sj_len, List.length_replicate, hlS]) hi1) (g := (mkF m 32 #[rv a, iv (0 : Int32), rv st, iv oo, iv (1 : Int32)] [(.int (oo + (1 : Int32))), (.ref st), (.long (gj (sj GG (0 : Int32) ((gj GG (0 : Int32)) ||| (gj ST (oo + (0 : Int32))))) (1 : Int32))), (.int (1 : Int32)), (.ref ag)])) rfl rfl (hb hby d71m13_32) _) ?_
  refine OGets.step (fun _ => XS.lor X235.here hx rfl (hb hby d71m13_33) rfl) ?_
  obtain ⟨cl238, Ar238, S238⟩ := V231.arr 1 rfl
  obtain ⟨T238, h238, X238, e238, W238, st238⟩ := stJ X235 hx hZ e235 Ar238 (j := (1 : Int32)) (own_sin (n := 32) S238 (by simp only [List.length_map, si_len, sj_len, List.length_replicate, hlG]) (by decide)) (g := (mkF m 34 #[rv a, iv (0 : Int32), rv st, iv oo, iv (1 : Int32)] [(.long ((gj (sj GG (0 : Int32) ((gj GG (0 : Int32)) ||| (gj ST (oo + (0 : Int32))))) (1 : Int32)) ||| (gj ST (oo + (1 : Int32))))), (.int (1 : Int32)), (.ref ag)])) rfl rfl (hb hby d71m13_34)
  have V238 : OView Z n0 h238 (oP a [(.ref ap), (.ref as), (.ref aq), (.ref ax), (.ref ak), (.int (2 : Int32)), (.ref ag), (.ref ab), (.int (2 : Int32))] :: oB ag (sj (sj GG (0 : Int32) ((gj GG (0 : Int32)) ||| (gj ST (oo + (0 : Int32))))) (1 : Int32) ((gj (sj GG (0 : Int32) ((gj GG (0 : Int32)) ||| (gj ST (oo + (0 : Int32))))) (1 : Int32)) ||| (gj ST (oo + (1 : Int32))))) :: oB st ST :: F) := V231.putJ 1 rfl W238
  have N238 := Fr.snoc X238 N231 (V231.old 1 rfl)
  have Z238 : n0 ≤ h238.size := by rw [W238.size]; exact Z231
  have O238 := O231.wr W238 (V231.old 1 rfl)
  refine OGets.step st238 ?_
  refine OGets.step (fun _ => XS.iinc X238.here hx rfl (hb hby d71m13_35) rfl (l' := #[rv a, iv (0 : Int32), rv st, iv oo, iv (2 : Int32)]) rfl) ?_
  refine OGets.step (fun _ => XS.goto X238.here hx rfl (pc0 := 38) (pc' := 3) rfl (hb hby d71m13_38) (by decide) (by decide)) ?_
  refine OGets.step (fun _ => XS.iload X238.here hx rfl (hb hby d71m13_3) rfl) ?_
  refine OGets.step (fun _ => XS.aloadN X238.here hx rfl (hb hby d71m13_5) rfl rfl) ?_
  obtain ⟨T239, X239, e239, st239⟩ := getF X238 hx hZ hown (host := "") (Or.inl (ow hw 23 rfl)) Via.refl e238 (V238.fld 0 rfl 5 rfl rfl) (g := (mkF m 6 #[rv a, iv (0 : Int32), rv st, iv oo, iv (2 : Int32)] [(.ref a), (.int (2 : Int32))])) rfl rfl (hb hby d71m13_6)
  refine OGets.step st239 ?_
  refine OGets.step (fun _ => XS.icmpYes X239.here hx rfl (pc0 := 9) (pc' := 41) rfl (hb hby d71m13_9) rfl (flt (by decide : ¬ ((2 : Int32) < (2 : Int32)))).2.1 (by decide) (by decide)) ?_
  refine OGets.retV X239 hx hlk Bd.returns (hb hby d71m13_41) (Nat.le_of_ble_eq_true rfl) (Nat.le_of_ble_eq_true rfl) ?_
  rw [e239]
  exact ⟨rfl, N238, V238, O238⟩
theorem ef_gat21 (m : MethodId) (x0 : Addr) (x1 : Int32) (x2 : Addr) (x3 : Int32) : entryFrame m #[(.ref x0), (.int x1), (.ref x2), (.int x3)] 5 = mkF m 0 #[.val (.ref x0), .val (.int x1), .val (.ref x2), .val (.int x3), .unset] [] := by first | (simp [entryFrame, mkF, argsToLocals, Value.category]; done) | rfl
def Q_gat21 (Z : State) (a : Addr) (st : Addr) (ap : Addr) (as : Addr) (aq : Addr) (ax : Addr) (ak : Addr) (ag : Addr) (ab : Addr) (oo : Int32) (GG : List Int64) (ST : List Int64) (h0 : Heap) (n0 : Nat) (F : List (Addr × OObj)) (v : Option Value) (h : Heap) (L : List Loc) : Prop := v = none ∧ Fr n0 L ∧ OView Z n0 h (oP a [(.ref ap), (.ref as), (.ref aq), (.ref ax), (.ref ak), (.int (2 : Int32)), (.ref ag), (.ref ab), (.int (2 : Int32))] :: oB ag (sj (sj GG (2 : Int32) ((gj GG (2 : Int32)) ||| (gj ST (oo + (0 : Int32))))) (3 : Int32) ((gj (sj GG (2 : Int32) ((gj GG (2 : Int32)) ||| (gj ST (oo + (0 : Int32))))) (3 : Int32)) ||| (gj ST (oo + (1 : Int32))))) :: oB st ST :: F) ∧ Old Z n0 h
set_option maxRecDepth 65536 in
set_option maxHeartbeats 40000000 in
theorem rm_gat21 (l : Launch) (Z : State) (a0 : Array Value) (hw : ∀ d ∈ tables_1, d.before a0 Z = true) (ws : List Jvm.Cond) (a : Addr) (st : Addr) (ap : Addr) (as : Addr) (aq : Addr) (ax : Addr) (ak : Addr) (ag : Addr) (ab : Addr) (oo : Int32) (GG : List Int64) (ST : List Int64) (h0 : Heap) (n0 : Nat) (F : List (Addr × OObj)) (Z0 : n0 ≤ h0.size) (hlG : GG.length = 32) (hlS : ST.length = 4) (hi0 : inb 4 (oo + (0 : Int32))) (hi1 : inb 4 (oo + (1 : Int32))) (V0 : OView Z n0 h0 (oP a [(.ref ap), (.ref as), (.ref aq), (.ref ax), (.ref ak), (.int (2 : Int32)), (.ref ag), (.ref ab), (.int (2 : Int32))] :: oB ag GG :: oB st ST :: F)) (O0 : Old Z n0 h0) :
    MetFree l (⟨"com/example/inya/inya/SearchPath", "gather", "(I[JI)V"⟩ : MethodName) (head1 (Jvm.Cond.code (⟨"com/example/inya/inya/SearchPath", "gather", "(I[JI)V"⟩ : MethodName) prog_71_method_13_code 5 none :: ws) ({ frames := 0, cells := 0, slots := 0, locals := 0 } : Room)) (fun a_ U => a_ = #[(.ref a), (.int (1 : Int32)), (.ref st), (.int oo)] ∧ Z.Warmed39 U.vm ∧ U.heap = h0) (fun _ _ _ _ _ => True) (fun _ U o U' => ∃ v L, o = .returned v ∧ Q_gat21 Z a st ap as aq ax ak ag ab oo GG ST h0 n0 F v U'.heap L ∧ FrameEnd U o U' L ({ frames := 0, cells := 0, slots := 0, locals := 0 } : Room).cells ({ frames := 0, cells := 0, slots := 0, locals := 0 } : Room).slots) := by
  refine MetFree.of_bodySF (plainFor_of_name pn_0) hisR ?_
  intro p e s m args below meth c s₁ Bd hml0 hP hK
  obtain ⟨rfl, hZ, hh⟩ := hP
  have hx := Bd.exec
  have hby := Bd.bytes
  have hlk : meth.locks = false := Bd.notSynchronized
  have hml : c.maxLocals = 5 := hml0
  have hown : s.vm.findClass "com/example/inya/inya/SearchPath" = some m.cls := findClass_of_methodNamed Bd.named
  have hnm := (name_of_methodNamed Bd.named Bd.method).1
  have X0 : Stand p l e ({ frames := 0, cells := 0, slots := 0, locals := 0 } : Room) s m #[(.ref a), (.int (1 : Int32)), (.ref st), (.int oo)] below meth c s₁ [] 0 0 := Stand.of_body Bd
  have e0 : s₁.heap = h0 := by rw [← hh, Bd.state]; rfl
  have N0 := Fr.nil n0
  show OGets p e below (OLeaves s (Q_gat21 Z a st ap as aq ax ak ag ab oo GG ST h0 n0 F ) ({ frames := 0, cells := 0, slots := 0, locals := 0 } : Room).cells ({ frames := 0, cells := 0, slots := 0, locals := 0 } : Room).slots) _
  refine OGets.enter (ef_gat21 m a (1 : Int32) st oo) ?_
  show OGets p e below _ (s₁.setTop (mkF m 0 #[rv a, iv (1 : Int32), rv st, iv oo, uv] []))
  refine OGets.step (fun _ => XS.iconst X0.here hx rfl (hb hby d71m13_0)) ?_
  refine OGets.step (fun _ => XS.istore X0.here hx rfl (hb hby d71m13_1) rfl (l' := #[rv a, iv (1 : Int32), rv st, iv oo, iv (0 : Int32)]) rfl) ?_
  refine OGets.step (fun _ => XS.iload X0.here hx rfl (hb hby d71m13_3) rfl) ?_
  refine OGets.step (fun _ => XS.aloadN X0.here hx rfl (hb hby d71m13_5) rfl rfl) ?_
  obtain ⟨T241, X241, e241, st241⟩ := getF X0 hx hZ hown (host := "") (Or.inl (ow hw 23 rfl)) Via.refl e0 (V0.fld 0 rfl 5 rfl rfl) (g := (mkF m 6 #[rv a, iv (1 : Int32), rv st, iv oo, iv (0 : Int32)] [(.ref a), (.int (0 : Int32))])) rfl rfl (hb hby d71m13_6)
  refine OGets.step st241 ?_
  refine OGets.step (fun _ => XS.icmpNo X241.here hx rfl (hb hby d71m13_9) rfl (tlt (by decide : (0 : Int32) < (2 : Int32))).2.1) ?_
  refine OGets.step (fun _ => XS.aloadN X241.here hx rfl (hb hby d71m13_12) rfl rfl) ?_
  obtain ⟨T243, X243, e243, st243⟩ := getF X241 hx hZ hown (host := "") (Or.inl (ow hw 25 rfl)) Via.refl e241 (V0.fld 0 rfl 6 rfl rfl) (g := (mkF m 13 #[rv a, iv (1 : Int32), rv st, iv oo, iv (0 : Int32)] [(.ref a)])) rfl rfl (hb hby d71m13_13)
  refine OGets.step st243 ?_
  refine OGets.step (fun _ => XS.iloadN X243.here hx rfl (hb hby d71m13_16) rfl) ?_
  refine OGets.step (fun _ => XS.aloadN X243.here hx rfl (hb hby d71m13_17) rfl rfl) ?_
  obtain ⟨T244, X244, e244, st244⟩ := getF X243 hx hZ hown (host := "") (Or.inl (ow hw 23 rfl)) Via.refl e243 (V0.fld 0 rfl 5 rfl rfl) (g := (mkF m 18 #[rv a, iv (1 : Int32), rv st, iv oo, iv (0 : Int32)] [(.ref a), (.int (1 : Int32)), (.ref ag)])) rfl rfl (hb hby d71m13_18)
  refine OGets.step st244 ?_
  refine OGets.step (fun _ => XS.imul X244.here hx rfl (hb hby d71m13_21) rfl) ?_
  show OGets p e below _ (T244.setTop (mkF m 22 #[rv a, iv (1 : Int32), rv st, iv oo, iv (0 : Int32)] [(.int (2 : Int32)), (.ref ag)]))
  refine OGets.step (fun _ => XS.iload X244.here hx rfl (hb hby d71m13_22) rfl) ?_
  refine OGets.step (fun _ => XS.iadd X244.here hx rfl (hb hby d71m13_24) rfl) ?_
  show OGets p e below _ (T244.setTop (mkF m 25 #[rv a, iv (1 : Int32), rv st, iv oo, iv (0 : Int32)] [(.int (2 : Int32)), (.ref ag)]))
  refine OGets.step (U' := T244.setTop (mkF m 26 #[rv a, iv (1 : Int32), rv st, iv oo, iv (0 : Int32)] [(.int (2 : Int32)), (.ref ag), (.int (2 : Int32)), (.ref ag)])) (fun t kt => ?_) ?_
  · jvm_step X244.here [X244.here.top, hx, (hb hby d71m13_25), Value.category]
    exact kt
  obtain ⟨cl245, Ar245, S245⟩ := V0.arr 1 rfl
  refine OGets.step (fun _ => X244.laload hx (j := (2 : Int32)) (v := (.long (gj GG (2 : Int32)))) (by rw [e244]; exact Ar245.1) (State.isArrayOf_alike hZ.alike Ar245.2.1) Ar245.2.2 (own_sin (n := 32) S245 (by simp only [List.length_map, si_len, sj_len, List.length_replicate, hlG]) (by decide)) (own_sgetJ (n := 32) S245 (by simp only [List.length_map, si_len, sj_len, List.length_replicate, hlG]) (by decide)) (g := (mkF m 26 #[rv a, iv (1 : Int32), rv st, iv oo, iv (0 : Int32)] [(.int (2 : Int32)), (.ref ag), (.int (2 : Int32)), (.ref ag)])) rfl rfl (hb hby d71m13_26) _) ?_
  refine OGets.step (fun _ => XS.aloadN X244.here hx rfl (hb hby d71m13_27) rfl rfl) ?_
  refine OGets.step (fun _ => XS.iloadN X244.here hx rfl (hb hby d71m13_28) rfl) ?_
  refine OGets.step (fun _ => XS.iload X244.here hx rfl (hb hby d71m13_29) rfl) ?_
  refine OGets.step (fun _ => XS.iadd X244.here hx rfl (hb hby d71m13_31) rfl) ?_
  show OGets p e below _ (T244.setTop (mkF m 32 #[rv a, iv (1 : Int32), rv st, iv oo, iv (0 : Int32)] [(.int (oo + (0 : Int32))), (.ref st), (.long (gj GG (2 : Int32))), (.int (2 : Int32)), (.ref ag)]))
  obtain ⟨cl246, Ar246, S246⟩ := V0.arr 2 rfl
  refine OGets.step (fun _ => X244.laload hx (j := (oo + (0 : Int32))) (v := (.long (gj ST (oo + (0 : Int32))))) (by rw [e244]; exact Ar246.1) (State.isArrayOf_alike hZ.alike Ar246.2.1) Ar246.2.2 (own_sin (n := 4) S246 (by simp only [List.length_map, si_len, sj_len, List.length_replicate, hlS]) hi0) (own_sgetJ (n := 4) S246 (by simp only [List.length_map, si_len, sj_len, List.length_replicate, hlS]) hi0) (g := (mkF m 32 #[rv a, iv (1 : Int32), rv st, iv oo, iv (0 : Int32)] [(.int (oo + (0 : Int32))), (.ref st), (.long (gj GG (2 : Int32))), (.int (2 : Int32)), (.ref ag)])) rfl rfl (hb hby d71m13_32) _) ?_
  refine OGets.step (fun _ => XS.lor X244.here hx rfl (hb hby d71m13_33) rfl) ?_
  obtain ⟨cl247, Ar247, S247⟩ := V0.arr 1 rfl
  obtain ⟨T247, h247, X247, e247, W247, st247⟩ := stJ X244 hx hZ e244 Ar247 (j := (2 : Int32)) (own_sin (n := 32) S247 (by simp only [List.length_map, si_len, sj_len, List.length_replicate, hlG]) (by decide)) (g := (mkF m 34 #[rv a, iv (1 : Int32), rv st, iv oo, iv (0 : Int32)] [(.long ((gj GG (2 : Int32)) ||| (gj ST (oo + (0 : Int32))))), (.int (2 : Int32)), (.ref ag)])) rfl rfl (hb hby d71m13_34)
  have V247 : OView Z n0 h247 (oP a [(.ref ap), (.ref as), (.ref aq), (.ref ax), (.ref ak), (.int (2 : Int32)), (.ref ag), (.ref ab), (.int (2 : Int32))] :: oB ag (sj GG (2 : Int32) ((gj GG (2 : Int32)) ||| (gj ST (oo + (0 : Int32))))) :: oB st ST :: F) := V0.putJ 1 rfl W247
  have N247 := Fr.snoc X247 N0 (V0.old 1 rfl)
  have Z247 : n0 ≤ h247.size := by rw [W247.size]; exact Z0
  have O247 := O0.wr W247 (V0.old 1 rfl)
  refine OGets.step st247 ?_
  refine OGets.step (fun _ => XS.iinc X247.here hx rfl (hb hby d71m13_35) rfl (l' := #[rv a, iv (1 : Int32), rv st, iv oo, iv (1 : Int32)]) rfl) ?_
  refine OGets.step (fun _ => XS.goto X247.here hx rfl (pc0 := 38) (pc' := 3) rfl (hb hby d71m13_38) (by decide) (by decide)) ?_
  refine OGets.step (fun _ => XS.iload X247.here hx rfl (hb hby d71m13_3) rfl) ?_
  refine OGets.step (fun _ => XS.aloadN X247.here hx rfl (hb hby d71m13_5) rfl rfl) ?_
  obtain ⟨T248, X248, e248, st248⟩ := getF X247 hx hZ hown (host := "") (Or.inl (ow hw 23 rfl)) Via.refl e247 (V247.fld 0 rfl 5 rfl rfl) (g := (mkF m 6 #[rv a, iv (1 : Int32), rv st, iv oo, iv (1 : Int32)] [(.ref a), (.int (1 : Int32))])) rfl rfl (hb hby d71m13_6)
  refine OGets.step st248 ?_
  refine OGets.step (fun _ => XS.icmpNo X248.here hx rfl (hb hby d71m13_9) rfl (tlt (by decide : (1 : Int32) < (2 : Int32))).2.1) ?_
  refine OGets.step (fun _ => XS.aloadN X248.here hx rfl (hb hby d71m13_12) rfl rfl) ?_
  obtain ⟨T250, X250, e250, st250⟩ := getF X248 hx hZ hown (host := "") (Or.inl (ow hw 25 rfl)) Via.refl e248 (V247.fld 0 rfl 6 rfl rfl) (g := (mkF m 13 #[rv a, iv (1 : Int32), rv st, iv oo, iv (1 : Int32)] [(.ref a)])) rfl rfl (hb hby d71m13_13)
  refine OGets.step st250 ?_
  refine OGets.step (fun _ => XS.iloadN X250.here hx rfl (hb hby d71m13_16) rfl) ?_
  refine OGets.step (fun _ => XS.aloadN X250.here hx rfl (hb hby d71m13_17) rfl rfl) ?_
  obtain ⟨T251, X251, e251, st251⟩ := getF X250 hx hZ hown (host := "") (Or.inl (ow hw 23 rfl)) Via.refl e250 (V247.fld 0 rfl 5 rfl rfl) (g := (mkF m 18 #[rv a, iv (1 : Int32), rv st, iv oo, iv (1 : Int32)] [(.ref a), (.int (1 : Int32)), (.ref ag)])) rfl rfl (hb hby d71m13_18)
  refine OGets.step st251 ?_
  refine OGets.step (fun _ => XS.imul X251.here hx rfl (hb hby d71m13_21) rfl) ?_
  show OGets p e below _ (T251.setTop (mkF m 22 #[rv a, iv (1 : Int32), rv st, iv oo, iv (1 : Int32)] [(.int (2 : Int32)), (.ref ag)]))
  refine OGets.step (fun _ => XS.iload X251.here hx rfl (hb hby d71m13_22) rfl) ?_
  refine OGets.step (fun _ => XS.iadd X251.here hx rfl (hb hby d71m13_24) rfl) ?_
  show OGets p e below _ (T251.setTop (mkF m 25 #[rv a, iv (1 : Int32), rv st, iv oo, iv (1 : Int32)] [(.int (3 : Int32)), (.ref ag)]))
  refine OGets.step (U' := T251.setTop (mkF m 26 #[rv a, iv (1 : Int32), rv st, iv oo, iv (1 : Int32)] [(.int (3 : Int32)), (.ref ag), (.int (3 : Int32)), (.ref ag)])) (fun t kt => ?_) ?_
  · jvm_step X251.here [X251.here.top, hx, (hb hby d71m13_25), Value.category]
    exact kt
  obtain ⟨cl252, Ar252, S252⟩ := V247.arr 1 rfl
  refine OGets.step (fun _ => X251.laload hx (j := (3 : Int32)) (v := (.long (gj (sj GG (2 : Int32) ((gj GG (2 : Int32)) ||| (gj ST (oo + (0 : Int32))))) (3 : Int32)))) (by rw [e251]; exact Ar252.1) (State.isArrayOf_alike hZ.alike Ar252.2.1) Ar252.2.2 (own_sin (n := 32) S252 (by simp only [List.length_map, si_len, sj_len, List.length_replicate, hlG]) (by decide)) (own_sgetJ (n := 32) S252 (by simp only [List.length_map, si_len, sj_len, List.length_replicate, hlG]) (by decide)) (g := (mkF m 26 #[rv a, iv (1 : Int32), rv st, iv oo, iv (1 : Int32)] [(.int (3 : Int32)), (.ref ag), (.int (3 : Int32)), (.ref ag)])) rfl rfl (hb hby d71m13_26) _) ?_
  refine OGets.step (fun _ => XS.aloadN X251.here hx rfl (hb hby d71m13_27) rfl rfl) ?_
  refine OGets.step (fun _ => XS.iloadN X251.here hx rfl (hb hby d71m13_28) rfl) ?_
  refine OGets.step (fun _ => XS.iload X251.here hx rfl (hb hby d71m13_29) rfl) ?_
  refine OGets.step (fun _ => XS.iadd X251.here hx rfl (hb hby d71m13_31) rfl) ?_
  show OGets p e below _ (T251.setTop (mkF m 32 #[rv a, iv (1 : Int32), rv st, iv oo, iv (1 : Int32)] [(.int (oo + (1 : Int32))), (.ref st), (.long (gj (sj GG (2 : Int32) ((gj GG (2 : Int32)) ||| (gj ST (oo + (0 : Int32))))) (3 : Int32))), (.int (3 : Int32)), (.ref ag)]))
  obtain ⟨cl253, Ar253, S253⟩ := V247.arr 2 rfl
  refine OGets.step (fun _ => X251.laload hx (j := (oo + (1 : Int32))) (v := (.long (gj ST (oo + (1 : Int32))))) (by rw [e251]; exact Ar253.1) (State.isArrayOf_alike hZ.alike Ar253.2.1) Ar253.2.2 (own_sin (n := 4) S253 (by simp only [List.length_map, si_len, sj_len, List.length_replicate, hlS]) hi1) (own_sgetJ (n := 4) S253 (by simp only [List.length_map, si_len, sj_len, List.length_replicate, hlS]) hi1) (g := (mkF m 32 #[rv a, iv (1 : Int32), rv st, iv oo, iv (1 : Int32)] [(.int (oo + (1 : Int32))), (.ref st), (.long (gj (sj GG (2 : Int32) ((gj GG (2 : Int32)) ||| (gj ST (oo + (0 : Int32))))) (3 : Int32))), (.int (3 : Int32)), (.ref ag)])) rfl rfl (hb hby d71m13_32) _) ?_
  refine OGets.step (fun _ => XS.lor X251.here hx rfl (hb hby d71m13_33) rfl) ?_
  obtain ⟨cl254, Ar254, S254⟩ := V247.arr 1 rfl
  obtain ⟨T254, h254, X254, e254, W254, st254⟩ := stJ X251 hx hZ e251 Ar254 (j := (3 : Int32)) (own_sin (n := 32) S254 (by simp only [List.length_map, si_len, sj_len, List.length_replicate, hlG]) (by decide)) (g := (mkF m 34 #[rv a, iv (1 : Int32), rv st, iv oo, iv (1 : Int32)] [(.long ((gj (sj GG (2 : Int32) ((gj GG (2 : Int32)) ||| (gj ST (oo + (0 : Int32))))) (3 : Int32)) ||| (gj ST (oo + (1 : Int32))))), (.int (3 : Int32)), (.ref ag)])) rfl rfl (hb hby d71m13_34)
  have V254 : OView Z n0 h254 (oP a [(.ref ap), (.ref as), (.ref aq), (.ref ax), (.ref ak), (.int (2 : Int32)), (.ref ag), (.ref ab), (.int (2 : Int32))] :: oB ag (sj (sj GG (2 : Int32) ((gj GG (2 : Int32)) ||| (gj ST (oo + (0 : Int32))))) (3 : Int32) ((gj (sj GG (2 : Int32) ((gj GG (2 : Int32)) ||| (gj ST (oo + (0 : Int32))))) (3 : Int32)) ||| (gj ST (oo + (1 : Int32))))) :: oB st ST :: F) := V247.putJ 1 rfl W254
  have N254 := Fr.snoc X254 N247 (V247.old 1 rfl)
  have Z254 : n0 ≤ h254.size := by rw [W254.size]; exact Z247
  have O254 := O247.wr W254 (V247.old 1 rfl)
  refine OGets.step st254 ?_
  refine OGets.step (fun _ => XS.iinc X254.here hx rfl (hb hby d71m13_35) rfl (l' := #[rv a, iv (1 : Int32), rv st, iv oo, iv (2 : Int32)]) rfl) ?_
  refine OGets.step (fun _ => XS.goto X254.here hx rfl (pc0 := 38) (pc' := 3) rfl (hb hby d71m13_38) (by decide) (by decide)) ?_
  refine OGets.step (fun _ => XS.iload X254.here hx rfl (hb hby d71m13_3) rfl) ?_
  refine OGets.step (fun _ => XS.aloadN X254.here hx rfl (hb hby d71m13_5) rfl rfl) ?_
  obtain ⟨T255, X255, e255, st255⟩ := getF X254 hx hZ hown (host := "") (Or.inl (ow hw 23 rfl)) Via.refl e254 (V254.fld 0 rfl 5 rfl rfl) (g := (mkF m 6 #[rv a, iv (1 : Int32), rv st, iv oo, iv (2 : Int32)] [(.ref a), (.int (2 : Int32))])) rfl rfl (hb hby d71m13_6)
  refine OGets.step st255 ?_
  refine OGets.step (fun _ => XS.icmpYes X255.here hx rfl (pc0 := 9) (pc' := 41) rfl (hb hby d71m13_9) rfl (flt (by decide : ¬ ((2 : Int32) < (2 : Int32)))).2.1 (by decide) (by decide)) ?_
  refine OGets.retV X255 hx hlk Bd.returns (hb hby d71m13_41) (Nat.le_of_ble_eq_true rfl) (Nat.le_of_ble_eq_true rfl) ?_
  rw [e255]
  exact ⟨rfl, N254, V254, O254⟩
def f_mn (p0 : Int32) (p1 : Int32) : Int32 := (if p1 < p0 then p1 else p0)
theorem dj29m69_0 : decode jdk_29_method_69_code 0 = .ok (.iload_n 0, 1) := by decide +kernel
theorem dj29m69_1 : decode jdk_29_method_69_code 1 = .ok (.iload_n 1, 1) := by decide +kernel
theorem dj29m69_2 : decode jdk_29_method_69_code 2 = .ok (.if_icmp .gt 7, 3) := by decide +kernel
theorem dj29m69_9 : decode jdk_29_method_69_code 9 = .ok (.iload_n 1, 1) := by decide +kernel
theorem dj29m69_10 : decode jdk_29_method_69_code 10 = .ok (.ireturn, 1) := by decide +kernel
theorem dj29m69_5 : decode jdk_29_method_69_code 5 = .ok (.iload_n 0, 1) := by decide +kernel
theorem dj29m69_6 : decode jdk_29_method_69_code 6 = .ok (.goto 4, 3) := by decide +kernel
theorem ef_mn (m : MethodId) (x0 : Int32) (x1 : Int32) : entryFrame m #[(.int x0), (.int x1)] 2 = mkF m 0 #[.val (.int x0), .val (.int x1)] [] := by first | (simp [entryFrame, mkF, argsToLocals, Value.category]; done) | rfl
def Q_mn (Z : State) (p0 : Int32) (p1 : Int32) (h0 : Heap) (n0 : Nat) (v : Option Value) (h : Heap) (L : List Loc) : Prop := v = some (.int (f_mn p0 p1)) ∧ L = [] ∧ h = h0
set_option maxRecDepth 65536 in
set_option maxHeartbeats 40000000 in
theorem rm_mn (l : Launch) (Z : State) (a0 : Array Value) (hw : ∀ d ∈ tables_1, d.before a0 Z = true) (ws : List Jvm.Cond) (p0 : Int32) (p1 : Int32) (h0 : Heap) (n0 : Nat) (Z0 : n0 ≤ h0.size) :
    MetFree l (⟨"java/lang/Math", "min", "(II)I"⟩ : MethodName) (head1 (Jvm.Cond.code (⟨"java/lang/Math", "min", "(II)I"⟩ : MethodName) jdk_29_method_69_code 2 (some .int) :: ws) ({ frames := 0, cells := 0, slots := 0, locals := 0 } : Room)) (fun a_ U => a_ = #[(.int p0), (.int p1)] ∧ Z.Warmed39 U.vm ∧ U.heap = h0) (fun _ _ _ _ _ => True) (fun _ U o U' => ∃ v L, o = .returned v ∧ Q_mn Z p0 p1 h0 n0 v U'.heap L ∧ FrameEnd U o U' L ({ frames := 0, cells := 0, slots := 0, locals := 0 } : Room).cells ({ frames := 0, cells := 0, slots := 0, locals := 0 } : Room).slots) := by
  refine MetFree.of_bodySF (Jvm.Free.JP.mathPlain rfl (by decide +kernel)) hisR ?_
  intro p e s m args below meth c s₁ Bd hml0 hP hK
  obtain ⟨rfl, hZ, hh⟩ := hP
  have hx := Bd.exec
  have hby := Bd.bytes
  have hlk : meth.locks = false := Bd.notSynchronized
  have hml : c.maxLocals = 2 := hml0
  have hown : s.vm.findClass "java/lang/Math" = some m.cls := findClass_of_methodNamed Bd.named
  have hnm := (name_of_methodNamed Bd.named Bd.method).1
  have X0 : Stand p l e ({ frames := 0, cells := 0, slots := 0, locals := 0 } : Room) s m #[(.int p0), (.int p1)] below meth c s₁ [] 0 0 := Stand.of_body Bd
  have e0 : s₁.heap = h0 := by rw [← hh, Bd.state]; rfl
  have N0 := Fr.nil n0
  have hv0 : f_mn p0 p1 = (if p1 < p0 then p1 else p0) := rfl
  show OGets p e below (OLeaves s (Q_mn Z p0 p1 h0 n0 ) ({ frames := 0, cells := 0, slots := 0, locals := 0 } : Room).cells ({ frames := 0, cells := 0, slots := 0, locals := 0 } : Room).slots) _
  refine OGets.enter (ef_mn m p0 p1) ?_
  show OGets p e below _ (s₁.setTop (mkF m 0 #[iv p0, iv p1] []))
  refine OGets.step (fun _ => XS.iloadN X0.here hx rfl (hb hby dj29m69_0) rfl) ?_
  refine OGets.step (fun _ => XS.iloadN X0.here hx rfl (hb hby dj29m69_1) rfl) ?_
  by_cases hc2_257 : p1 < p0
  · refine OGets.step (fun _ => XS.icmpYes X0.here hx rfl (pc0 := 2) (pc' := 9) rfl (hb hby dj29m69_2) rfl (tlt hc2_257).2.2.1 (by decide) (by decide)) ?_
    have hv258 := hv0.trans (if_pos hc2_257)
    show OGets p e below _ (s₁.setTop (mkF m 9 #[iv p0, iv p1] []))
    refine OGets.step (fun _ => XS.iloadN X0.here hx rfl (hb hby dj29m69_9) rfl) ?_
    refine OGets.retI X0 hx hlk Bd.returns (hb hby dj29m69_10) (Nat.le_of_ble_eq_true rfl) (Nat.le_of_ble_eq_true rfl) ?_
    exact ⟨congrArg (fun z => some (Value.int z)) hv258.symm, rfl, e0⟩
  · refine OGets.step (fun _ => XS.icmpNo X0.here hx rfl (hb hby dj29m69_2) rfl (flt hc2_257).2.2.1) ?_
    have hv259 := hv0.trans (if_neg hc2_257)
    show OGets p e below _ (s₁.setTop (mkF m 5 #[iv p0, iv p1] []))
    refine OGets.step (fun _ => XS.iloadN X0.here hx rfl (hb hby dj29m69_5) rfl) ?_
    refine OGets.step (fun _ => XS.goto X0.here hx rfl (pc0 := 6) (pc' := 10) rfl (hb hby dj29m69_6) (by decide) (by decide)) ?_
    refine OGets.retI X0 hx hlk Bd.returns (hb hby dj29m69_10) (Nat.le_of_ble_eq_true rfl) (Nat.le_of_ble_eq_true rfl) ?_
    exact ⟨congrArg (fun z => some (Value.int z)) hv259.symm, rfl, e0⟩
theorem dj65m131_0 : decode jdk_65_method_131_code 0 = .ok (.iload_n 1, 1) := by decide +kernel
theorem dj65m131_1 : decode jdk_65_method_131_code 1 = .ok (.iload_n 0, 1) := by decide +kernel
theorem dj65m131_2 : decode jdk_65_method_131_code 2 = .ok (.if_icmp .ge 35, 3) := by decide +kernel
theorem dj65m131_37 : decode jdk_65_method_131_code 37 = .ok (.return_, 1) := by decide +kernel
theorem ef_ck10 (m : MethodId) (x0 : Int32) (x1 : Int32) : entryFrame m #[(.int x0), (.int x1)] 2 = mkF m 0 #[.val (.int x0), .val (.int x1)] [] := by first | (simp [entryFrame, mkF, argsToLocals, Value.category]; done) | rfl
def Q_ck10 (Z : State)  (h0 : Heap) (n0 : Nat) (v : Option Value) (h : Heap) (L : List Loc) : Prop := v = none ∧ L = [] ∧ h = h0
set_option maxRecDepth 65536 in
set_option maxHeartbeats 40000000 in
theorem rm_ck10 (l : Launch) (Z : State) (a0 : Array Value) (hw : ∀ d ∈ tables_1, d.before a0 Z = true) (ws : List Jvm.Cond)  (h0 : Heap) (n0 : Nat) (Z0 : n0 ≤ h0.size) :
    MetFree l (⟨"java/util/Arrays", "checkLength", "(II)V"⟩ : MethodName) (head1 (Jvm.Cond.code (⟨"java/util/Arrays", "checkLength", "(II)V"⟩ : MethodName) jdk_65_method_131_code 2 none :: ws) ({ frames := 0, cells := 0, slots := 0, locals := 0 } : Room)) (fun a_ U => a_ = #[(.int (0 : Int32)), (.int (1 : Int32))] ∧ Z.Warmed39 U.vm ∧ U.heap = h0) (fun _ _ _ _ _ => True) (fun _ U o U' => ∃ v L, o = .returned v ∧ Q_ck10 Z  h0 n0 v U'.heap L ∧ FrameEnd U o U' L ({ frames := 0, cells := 0, slots := 0, locals := 0 } : Room).cells ({ frames := 0, cells := 0, slots := 0, locals := 0 } : Room).slots) := by
  refine MetFree.of_bodySF (plainFor_of_name pn_1) hisR ?_
  intro p e s m args below meth c s₁ Bd hml0 hP hK
  obtain ⟨rfl, hZ, hh⟩ := hP
  have hx := Bd.exec
  have hby := Bd.bytes
  have hlk : meth.locks = false := Bd.notSynchronized
  have hml : c.maxLocals = 2 := hml0
  have hown : s.vm.findClass "java/util/Arrays" = some m.cls := findClass_of_methodNamed Bd.named
  have hnm := (name_of_methodNamed Bd.named Bd.method).1
  have X0 : Stand p l e ({ frames := 0, cells := 0, slots := 0, locals := 0 } : Room) s m #[(.int (0 : Int32)), (.int (1 : Int32))] below meth c s₁ [] 0 0 := Stand.of_body Bd
  have e0 : s₁.heap = h0 := by rw [← hh, Bd.state]; rfl
  have N0 := Fr.nil n0
  show OGets p e below (OLeaves s (Q_ck10 Z  h0 n0 ) ({ frames := 0, cells := 0, slots := 0, locals := 0 } : Room).cells ({ frames := 0, cells := 0, slots := 0, locals := 0 } : Room).slots) _
  refine OGets.enter (ef_ck10 m (0 : Int32) (1 : Int32)) ?_
  show OGets p e below _ (s₁.setTop (mkF m 0 #[iv (0 : Int32), iv (1 : Int32)] []))
  refine OGets.step (fun _ => XS.iloadN X0.here hx rfl (hb hby dj65m131_0) rfl) ?_
  refine OGets.step (fun _ => XS.iloadN X0.here hx rfl (hb hby dj65m131_1) rfl) ?_
  refine OGets.step (fun _ => XS.icmpYes X0.here hx rfl (pc0 := 2) (pc' := 37) rfl (hb hby dj65m131_2) rfl (flt (by decide : ¬ ((1 : Int32) < (0 : Int32)))).2.1 (by decide) (by decide)) ?_
  refine OGets.retV X0 hx hlk Bd.returns (hb hby dj65m131_37) (Nat.le_of_ble_eq_true rfl) (Nat.le_of_ble_eq_true rfl) ?_
  exact ⟨rfl, rfl, e0⟩
theorem dj65m139_0 : decode jdk_65_method_139_code 0 = .ok (.iload_n 1, 1) := by decide +kernel
theorem dj65m139_1 : decode jdk_65_method_139_code 1 = .ok (.iload_n 2, 1) := by decide +kernel
theorem dj65m139_2 : decode jdk_65_method_139_code 2 = .ok (.invokestatic 343, 3) := by decide +kernel
theorem pd_4 : parseMethodDescriptor "(II)V" = some ⟨[.int, .int], none⟩ := by decide +kernel
theorem dj65m139_5 : decode jdk_65_method_139_code 5 = .ok (.iload_n 2, 1) := by decide +kernel
theorem dj65m139_6 : decode jdk_65_method_139_code 6 = .ok (.iload_n 1, 1) := by decide +kernel
theorem dj65m139_7 : decode jdk_65_method_139_code 7 = .ok (.isub, 1) := by decide +kernel
theorem dj65m139_8 : decode jdk_65_method_139_code 8 = .ok (.istore_n 3, 1) := by decide +kernel
theorem dj65m139_9 : decode jdk_65_method_139_code 9 = .ok (.iload_n 3, 1) := by decide +kernel
theorem dj65m139_10 : decode jdk_65_method_139_code 10 = .ok (.newarray .long, 2) := by decide +kernel
theorem dj65m139_12 : decode jdk_65_method_139_code 12 = .ok (.astore 4, 2) := by decide +kernel
theorem dj65m139_14 : decode jdk_65_method_139_code 14 = .ok (.aload_n 0, 1) := by decide +kernel
theorem dj65m139_15 : decode jdk_65_method_139_code 15 = .ok (.iload_n 1, 1) := by decide +kernel
theorem dj65m139_16 : decode jdk_65_method_139_code 16 = .ok (.aload 4, 2) := by decide +kernel
theorem dj65m139_18 : decode jdk_65_method_139_code 18 = .ok (.iconst 0, 1) := by decide +kernel
theorem dj65m139_19 : decode jdk_65_method_139_code 19 = .ok (.aload_n 0, 1) := by decide +kernel
theorem dj65m139_20 : decode jdk_65_method_139_code 20 = .ok (.arraylength, 1) := by decide +kernel
theorem dj65m139_21 : decode jdk_65_method_139_code 21 = .ok (.iload_n 1, 1) := by decide +kernel
theorem dj65m139_22 : decode jdk_65_method_139_code 22 = .ok (.isub, 1) := by decide +kernel
theorem dj65m139_23 : decode jdk_65_method_139_code 23 = .ok (.iload_n 3, 1) := by decide +kernel
theorem dj65m139_24 : decode jdk_65_method_139_code 24 = .ok (.invokestatic 304, 3) := by decide +kernel
theorem pd_5 : parseMethodDescriptor "(II)I" = some ⟨[.int, .int], some .int⟩ := by decide +kernel
theorem dj65m139_27 : decode jdk_65_method_139_code 27 = .ok (.invokestatic 150, 3) := by decide +kernel
theorem dj65m139_30 : decode jdk_65_method_139_code 30 = .ok (.aload 4, 2) := by decide +kernel
theorem dj65m139_32 : decode jdk_65_method_139_code 32 = .ok (.areturn, 1) := by decide +kernel
theorem ef_crl10 (m : MethodId) (x0 : Addr) (x1 : Int32) (x2 : Int32) : entryFrame m #[(.ref x0), (.int x1), (.int x2)] 5 = mkF m 0 #[.val (.ref x0), .val (.int x1), .val (.int x2), .unset, .unset] [] := by first | (simp [entryFrame, mkF, argsToLocals, Value.category]; done) | rfl
def Q_crl10 (Z : State) (g : Addr) (GG : List Int64) (h0 : Heap) (n0 : Nat) (F : List (Addr × OObj)) (v : Option Value) (h : Heap) (L : List Loc) : Prop := ∃ d : Addr, v = some (.ref d) ∧ Fr n0 L ∧ OView Z n0 h (oB d [(gj GG (0 : Int32))] :: oB g GG :: F) ∧ Old Z n0 h
set_option maxRecDepth 65536 in
set_option maxHeartbeats 40000000 in
theorem rm_crl10 (l : Launch) (Z : State) (a0 : Array Value) (hw : ∀ d ∈ tables_1, d.before a0 Z = true) (ws : List Jvm.Cond) (g : Addr) (GG : List Int64) (h0 : Heap) (n0 : Nat) (F : List (Addr × OObj)) (Z0 : n0 ≤ h0.size) (hlG : GG.length = 16) (V0 : OView Z n0 h0 (oB g GG :: F)) (O0 : Old Z n0 h0) :
    MetFree l (⟨"java/util/Arrays", "copyOfRangeLong", "([JII)[J"⟩ : MethodName) (head1 (Jvm.Cond.code (⟨"java/util/Arrays", "copyOfRangeLong", "([JII)[J"⟩ : MethodName) jdk_65_method_139_code 5 (some (.array .long)) :: ws) ({ frames := 1, cells := 1, slots := 1, locals := 18 } : Room)) (fun a_ U => a_ = #[(.ref g), (.int (0 : Int32)), (.int (1 : Int32))] ∧ Z.Warmed39 U.vm ∧ U.heap = h0) (fun _ _ _ _ _ => True) (fun _ U o U' => ∃ v L, o = .returned v ∧ Q_crl10 Z g GG h0 n0 F v U'.heap L ∧ FrameEnd U o U' L ({ frames := 1, cells := 1, slots := 1, locals := 18 } : Room).cells ({ frames := 1, cells := 1, slots := 1, locals := 18 } : Room).slots) := by
  refine MetFree.of_bodySF (plainFor_of_name pn_1) hisR ?_
  intro p e s m args below meth c s₁ Bd hml0 hP hK
  obtain ⟨rfl, hZ, hh⟩ := hP
  have hx := Bd.exec
  have hby := Bd.bytes
  have hlk : meth.locks = false := Bd.notSynchronized
  have hml : c.maxLocals = 5 := hml0
  have hown : s.vm.findClass "java/util/Arrays" = some m.cls := findClass_of_methodNamed Bd.named
  have hnm := (name_of_methodNamed Bd.named Bd.method).1
  have X0 : Stand p l e ({ frames := 1, cells := 1, slots := 1, locals := 18 } : Room) s m #[(.ref g), (.int (0 : Int32)), (.int (1 : Int32))] below meth c s₁ [] 0 0 := Stand.of_body Bd
  have e0 : s₁.heap = h0 := by rw [← hh, Bd.state]; rfl
  have N0 := Fr.nil n0
  show OGets p e below (OLeaves s (Q_crl10 Z g GG h0 n0 F ) ({ frames := 1, cells := 1, slots := 1, locals := 18 } : Room).cells ({ frames := 1, cells := 1, slots := 1, locals := 18 } : Room).slots) _
  refine OGets.enter (ef_crl10 m g (0 : Int32) (1 : Int32)) ?_
  show OGets p e below _ (s₁.setTop (mkF m 0 #[rv g, iv (0 : Int32), iv (1 : Int32), uv, uv] []))
  refine OGets.step (fun _ => XS.iloadN X0.here hx rfl (hb hby dj65m139_0) rfl) ?_
  refine OGets.step (fun _ => XS.iloadN X0.here hx rfl (hb hby dj65m139_1) rfl) ?_
  obtain ⟨_, _, ⟨T261, L261, k261, n261⟩, -, X261, ⟨Lc261, hQ261, l261, y261, z261⟩, st261⟩ := Jvm.LawKit.callS X0 hx (y := (⟨"java/util/Arrays", "checkLength", "(II)V"⟩ : MethodName)) hown (mvT hZ (ow hw 59 rfl)) (mvT hZ (ow hw 60 rfl)) (mvT hZ (ow hw 38 rfl)) (mvT hZ (ow hw 61 rfl)) (by decide) (backOf (W := 0) (rm_ck10 l Z a0 hw []  h0 n0  Z0 ) hZ (ow hw 61 rfl) (ow hw 38 rfl) (by decide) (by decide)) (g := (mkF m 2 #[rv g, iv (0 : Int32), iv (1 : Int32), uv, uv] [(.int (1 : Int32)), (.int (0 : Int32))])) rfl (by rw [hml]; rfl) (argsL := [(.int (0 : Int32)), (.int (1 : Int32))]) (rest := []) (lenOf pd_4 rfl) rfl (by show 2 * 0 + _ ≤ _; exact Nat.le_of_eq rfl) (hb hby dj65m139_2) (fun _ _ => ⟨rfl, e0, Nat.le_of_ble_eq_true rfl, Nat.le_of_ble_eq_true rfl⟩)
  dsimp only [Pt.U, Pt.locs, Pt.cells, Pt.slots] at X261 l261 y261 z261 st261 hQ261
  rw [l261, y261, z261] at X261
  obtain ⟨rfl, rfl, e261⟩ := hQ261
  have N261 := Fr.app N0 (Fr.nil n0)
  refine OGets.step st261 ?_
  refine OGets.step (fun _ => XS.iloadN X261.here hx rfl (hb hby dj65m139_5) rfl) ?_
  refine OGets.step (fun _ => XS.iloadN X261.here hx rfl (hb hby dj65m139_6) rfl) ?_
  refine OGets.step (fun _ => XS.isub X261.here hx rfl (hb hby dj65m139_7) rfl) ?_
  show OGets p e below _ (T261.setTop (mkF m 8 #[rv g, iv (0 : Int32), iv (1 : Int32), uv, uv] [(.int (1 : Int32))]))
  refine OGets.step (fun _ => XS.istoreN X261.here hx rfl (hb hby dj65m139_8) rfl (l' := #[rv g, iv (0 : Int32), iv (1 : Int32), iv (1 : Int32), uv]) rfl) ?_
  refine OGets.step (fun _ => XS.iloadN X261.here hx rfl (hb hby dj65m139_9) rfl) ?_
  obtain ⟨T262, h262, k262, X262, e262, E262, A262, Ex262, st262⟩ := newPE X261 hx hZ (ow hw 0 rfl) e261 (g := (mkF m 10 #[rv g, iv (0 : Int32), iv (1 : Int32), iv (1 : Int32), uv] [(.int (1 : Int32))])) rfl (hb hby dj65m139_10) rfl (by decide) (cap := 1) (by decide) (by decide) (by decide) (by decide) (ad := "[J") (by decide +kernel)
  have V262' := V0.newArr Z0 E262 A262 1 rfl (fun _ => Ex262)
  have Z262 : n0 ≤ h262.size := Nat.le_trans Z0 E262.1
  obtain ⟨b262, g262⟩ : ∃ z, z = h0.size := ⟨_, rfl⟩
  rw [← g262] at V262' st262
  have V262 : OView Z n0 h262 (oB b262 [(0 : Int64)] :: oB g GG :: F) := V262'
  have O262 := O0.ext E262
  refine OGets.step st262 ?_
  refine OGets.step (fun _ => XS.astore X262.here hx rfl (hb hby dj65m139_12) rfl rfl (l' := #[rv g, iv (0 : Int32), iv (1 : Int32), iv (1 : Int32), rv b262]) rfl) ?_
  refine OGets.step (fun _ => XS.aloadN X262.here hx rfl (hb hby dj65m139_14) rfl rfl) ?_
  refine OGets.step (fun _ => XS.iloadN X262.here hx rfl (hb hby dj65m139_15) rfl) ?_
  refine OGets.step (fun _ => XS.aload X262.here hx rfl (hb hby dj65m139_16) rfl rfl) ?_
  refine OGets.step (fun _ => XS.iconst X262.here hx rfl (hb hby dj65m139_18)) ?_
  show OGets p e below _ (T262.setTop (mkF m 19 #[rv g, iv (0 : Int32), iv (1 : Int32), iv (1 : Int32), rv b262] [(.int (0 : Int32)), (.ref b262), (.int (0 : Int32)), (.ref g)]))
  refine OGets.step (fun _ => XS.aloadN X262.here hx rfl (hb hby dj65m139_19) rfl rfl) ?_
  obtain ⟨cl263, Ar263, S263⟩ := V262.arr 1 rfl
  have ln263 : cl263.slots.size.toInt32 = (16 : Int32) := by rw [own_len S263]; simp only [List.length_map, si_len, sj_len, List.length_replicate, hlG]; rfl
  refine OGets.step (U' := T262.setTop (mkF m 21 #[rv g, iv (0 : Int32), iv (1 : Int32), iv (1 : Int32), rv b262] [(.int (16 : Int32)), (.int (0 : Int32)), (.ref b262), (.int (0 : Int32)), (.ref g)])) (fun t kt => ?_) ?_
  · refine X262.arraylength hx (by rw [e262]; exact Ar263.1) (State.isArrayOf_alike hZ.alike Ar263.2.1) (g := (mkF m 20 #[rv g, iv (0 : Int32), iv (1 : Int32), iv (1 : Int32), rv b262] [(.ref g), (.int (0 : Int32)), (.ref b262), (.int (0 : Int32)), (.ref g)])) rfl rfl (hb hby dj65m139_20) _ ?_
    rw [ln263]; exact kt
  refine OGets.step (fun _ => XS.iloadN X262.here hx rfl (hb hby dj65m139_21) rfl) ?_
  refine OGets.step (fun _ => XS.isub X262.here hx rfl (hb hby dj65m139_22) rfl) ?_
  show OGets p e below _ (T262.setTop (mkF m 23 #[rv g, iv (0 : Int32), iv (1 : Int32), iv (1 : Int32), rv b262] [(.int (16 : Int32)), (.int (0 : Int32)), (.ref b262), (.int (0 : Int32)), (.ref g)]))
  refine OGets.step (fun _ => XS.iloadN X262.here hx rfl (hb hby dj65m139_23) rfl) ?_
  obtain ⟨_, _, ⟨T264, L264, k264, n264⟩, -, X264, ⟨Lc264, hQ264, l264, y264, z264⟩, st264⟩ := Jvm.LawKit.callS X262 hx (y := (⟨"java/lang/Math", "min", "(II)I"⟩ : MethodName)) hown (mvT hZ (ow hw 62 rfl)) (mvT hZ (ow hw 63 rfl)) (mvT hZ (ow hw 64 rfl)) (mvT hZ (ow hw 65 rfl)) (by decide) (backOf (W := 4) (rm_mn l Z a0 hw [] (16 : Int32) (1 : Int32) h262 n0  Z262 ) hZ (ow hw 65 rfl) (ow hw 64 rfl) (by decide) (by decide)) (g := (mkF m 24 #[rv g, iv (0 : Int32), iv (1 : Int32), iv (1 : Int32), rv b262] [(.int (1 : Int32)), (.int (16 : Int32)), (.int (0 : Int32)), (.ref b262), (.int (0 : Int32)), (.ref g)])) rfl (by rw [hml]; rfl) (argsL := [(.int (16 : Int32)), (.int (1 : Int32))]) (rest := [(.int (0 : Int32)), (.ref b262), (.int (0 : Int32)), (.ref g)]) (lenOf pd_5 rfl) rfl (by show 2 * 0 + _ ≤ _; exact Nat.le_of_eq rfl) (hb hby dj65m139_24) (fun _ _ => ⟨rfl, e262, Nat.le_of_ble_eq_true rfl, Nat.le_of_ble_eq_true rfl⟩)
  dsimp only [Pt.U, Pt.locs, Pt.cells, Pt.slots] at X264 l264 y264 z264 st264 hQ264
  rw [l264, y264, z264] at X264
  obtain ⟨rfl, rfl, e264⟩ := hQ264
  have N264 := Fr.app N261 (Fr.nil n0)
  rw [show f_mn (16 : Int32) (1 : Int32) = (1 : Int32) from by decide] at st264
  refine OGets.step st264 ?_
  obtain ⟨cs265, As265, Ss265⟩ := V262.arr 1 rfl
  obtain ⟨cd265, Ad265, Sd265⟩ := V262.arr 0 rfl
  obtain ⟨T265, h265, L265, X265, e265, N265, K265, B265, st265⟩ := cpA X264 hx hZ hown (ow hw 66 rfl) (ow hw 69 rfl) (ow hw 67 rfl) (ow hw 68 rfl) e264 (sp := (0 : Int32)) (dp := (0 : Int32)) (nn := (1 : Int32)) (us := [.long (gj GG (0 : Int32))]) (own_arv (L := GG) As265 Ss265 (16 : Int32) (by simp only [List.length_map, si_len, sj_len, List.length_replicate, hlG]; rfl)) (own_arv (L := [(0 : Int64)]) Ad265 Sd265 (1 : Int32) rfl) (Or.inl ⟨rfl, rfl⟩) (by decide) (by decide) (by decide) (by decide) (by decide) (own_us1 _ _) (by decide) N264 (V262.old 0 rfl) (g := (mkF m 27 #[rv g, iv (0 : Int32), iv (1 : Int32), iv (1 : Int32), rv b262] [(.int (1 : Int32)), (.int (0 : Int32)), (.ref b262), (.int (0 : Int32)), (.ref g)])) rfl (by rw [hml]; rfl) rfl (hb hby dj65m139_27) (by decide) (W := 0) (by show 2 * 0 + _ ≤ _; exact Nat.le_of_eq rfl) (by decide)
  have V265 : OView Z n0 h265 (oB b262 [(gj GG (0 : Int32))] :: oB g GG :: F) := V262.copied 0 rfl K265 B265 rfl
  have Z265 : n0 ≤ h265.size := Nat.le_trans Z262 K265.1
  have O265 := O262.keep K265 (allS (V262.old 0 rfl) all0)
  refine OGets.step st265 ?_
  refine OGets.step (fun _ => XS.aload X265.here hx rfl (hb hby dj65m139_30) rfl rfl) ?_
  refine OGets.retA X265 hx hlk (t := (.array .long)) Bd.returns rfl rfl rfl (hb hby dj65m139_32) (Nat.le_of_ble_eq_true rfl) (Nat.le_of_ble_eq_true rfl) ?_
  rw [e265]
  exact ⟨b262, rfl, N265, V265, O265⟩
theorem dj65m138_0 : decode jdk_65_method_138_code 0 = .ok (.iload_n 1, 1) := by decide +kernel
theorem dj65m138_1 : decode jdk_65_method_138_code 1 = .ok (.ifCond .ne 9, 3) := by decide +kernel
theorem dj65m138_4 : decode jdk_65_method_138_code 4 = .ok (.iload_n 2, 1) := by decide +kernel
theorem dj65m138_5 : decode jdk_65_method_138_code 5 = .ok (.aload_n 0, 1) := by decide +kernel
theorem dj65m138_6 : decode jdk_65_method_138_code 6 = .ok (.arraylength, 1) := by decide +kernel
theorem dj65m138_7 : decode jdk_65_method_138_code 7 = .ok (.if_icmp .eq 10, 3) := by decide +kernel
theorem dj65m138_10 : decode jdk_65_method_138_code 10 = .ok (.aload_n 0, 1) := by decide +kernel
theorem dj65m138_11 : decode jdk_65_method_138_code 11 = .ok (.iload_n 1, 1) := by decide +kernel
theorem dj65m138_12 : decode jdk_65_method_138_code 12 = .ok (.iload_n 2, 1) := by decide +kernel
theorem dj65m138_13 : decode jdk_65_method_138_code 13 = .ok (.invokestatic 355, 3) := by decide +kernel
theorem pd_6 : parseMethodDescriptor "([JII)[J" = some ⟨[(.array .long), .int, .int], some (.array .long)⟩ := by decide +kernel
theorem dj65m138_16 : decode jdk_65_method_138_code 16 = .ok (.areturn, 1) := by decide +kernel
theorem ef_cr10 (m : MethodId) (x0 : Addr) (x1 : Int32) (x2 : Int32) : entryFrame m #[(.ref x0), (.int x1), (.int x2)] 3 = mkF m 0 #[.val (.ref x0), .val (.int x1), .val (.int x2)] [] := by first | (simp [entryFrame, mkF, argsToLocals, Value.category]; done) | rfl
def Q_cr10 (Z : State) (g : Addr) (GG : List Int64) (h0 : Heap) (n0 : Nat) (F : List (Addr × OObj)) (v : Option Value) (h : Heap) (L : List Loc) : Prop := ∃ d : Addr, v = some (.ref d) ∧ Fr n0 L ∧ OView Z n0 h (oB d [(gj GG (0 : Int32))] :: oB g GG :: F) ∧ Old Z n0 h
set_option maxRecDepth 65536 in
set_option maxHeartbeats 40000000 in
theorem rm_cr10 (l : Launch) (Z : State) (a0 : Array Value) (hw : ∀ d ∈ tables_1, d.before a0 Z = true) (ws : List Jvm.Cond) (g : Addr) (GG : List Int64) (h0 : Heap) (n0 : Nat) (F : List (Addr × OObj)) (Z0 : n0 ≤ h0.size) (hlG : GG.length = 16) (V0 : OView Z n0 h0 (oB g GG :: F)) (O0 : Old Z n0 h0) :
    MetFree l (⟨"java/util/Arrays", "copyOfRange", "([JII)[J"⟩ : MethodName) (head1 (Jvm.Cond.code (⟨"java/util/Arrays", "copyOfRange", "([JII)[J"⟩ : MethodName) jdk_65_method_138_code 3 (some (.array .long)) :: ws) ({ frames := 2, cells := 1, slots := 1, locals := 34 } : Room)) (fun a_ U => a_ = #[(.ref g), (.int (0 : Int32)), (.int (1 : Int32))] ∧ Z.Warmed39 U.vm ∧ U.heap = h0) (fun _ _ _ _ _ => True) (fun _ U o U' => ∃ v L, o = .returned v ∧ Q_cr10 Z g GG h0 n0 F v U'.heap L ∧ FrameEnd U o U' L ({ frames := 2, cells := 1, slots := 1, locals := 34 } : Room).cells ({ frames := 2, cells := 1, slots := 1, locals := 34 } : Room).slots) := by
  refine MetFree.of_bodySF (plainFor_of_name pn_1) hisR ?_
  intro p e s m args below meth c s₁ Bd hml0 hP hK
  obtain ⟨rfl, hZ, hh⟩ := hP
  have hx := Bd.exec
  have hby := Bd.bytes
  have hlk : meth.locks = false := Bd.notSynchronized
  have hml : c.maxLocals = 3 := hml0
  have hown : s.vm.findClass "java/util/Arrays" = some m.cls := findClass_of_methodNamed Bd.named
  have hnm := (name_of_methodNamed Bd.named Bd.method).1
  have X0 : Stand p l e ({ frames := 2, cells := 1, slots := 1, locals := 34 } : Room) s m #[(.ref g), (.int (0 : Int32)), (.int (1 : Int32))] below meth c s₁ [] 0 0 := Stand.of_body Bd
  have e0 : s₁.heap = h0 := by rw [← hh, Bd.state]; rfl
  have N0 := Fr.nil n0
  show OGets p e below (OLeaves s (Q_cr10 Z g GG h0 n0 F ) ({ frames := 2, cells := 1, slots := 1, locals := 34 } : Room).cells ({ frames := 2, cells := 1, slots := 1, locals := 34 } : Room).slots) _
  refine OGets.enter (ef_cr10 m g (0 : Int32) (1 : Int32)) ?_
  show OGets p e below _ (s₁.setTop (mkF m 0 #[rv g, iv (0 : Int32), iv (1 : Int32)] []))
  refine OGets.step (fun _ => XS.iloadN X0.here hx rfl (hb hby dj65m138_0) rfl) ?_
  refine OGets.step (fun _ => XS.ifNo X0.here hx rfl (hb hby dj65m138_1) rfl ((if0 _ _).trans (teq (by decide : (0 : Int32) = (0 : Int32))).2)) ?_
  refine OGets.step (fun _ => XS.iloadN X0.here hx rfl (hb hby dj65m138_4) rfl) ?_
  refine OGets.step (fun _ => XS.aloadN X0.here hx rfl (hb hby dj65m138_5) rfl rfl) ?_
  obtain ⟨cl267, Ar267, S267⟩ := V0.arr 0 rfl
  have ln267 : cl267.slots.size.toInt32 = (16 : Int32) := by rw [own_len S267]; simp only [List.length_map, si_len, sj_len, List.length_replicate, hlG]; rfl
  refine OGets.step (U' := s₁.setTop (mkF m 7 #[rv g, iv (0 : Int32), iv (1 : Int32)] [(.int (16 : Int32)), (.int (1 : Int32))])) (fun t kt => ?_) ?_
  · refine X0.arraylength hx (by rw [e0]; exact Ar267.1) (State.isArrayOf_alike hZ.alike Ar267.2.1) (g := (mkF m 6 #[rv g, iv (0 : Int32), iv (1 : Int32)] [(.ref g), (.int (1 : Int32))])) rfl rfl (hb hby dj65m138_6) _ ?_
    rw [ln267]; exact kt
  refine OGets.step (fun _ => XS.icmpNo X0.here hx rfl (hb hby dj65m138_7) rfl (feq (by decide : ¬ ((1 : Int32) = (16 : Int32)))).1) ?_
  show OGets p e below _ (s₁.setTop (mkF m 10 #[rv g, iv (0 : Int32), iv (1 : Int32)] []))
  refine OGets.step (fun _ => XS.aloadN X0.here hx rfl (hb hby dj65m138_10) rfl rfl) ?_
  refine OGets.step (fun _ => XS.iloadN X0.here hx rfl (hb hby dj65m138_11) rfl) ?_
  refine OGets.step (fun _ => XS.iloadN X0.here hx rfl (hb hby dj65m138_12) rfl) ?_
  obtain ⟨_, _, ⟨T269, L269, k269, n269⟩, -, X269, ⟨Lc269, hQ269, l269, y269, z269⟩, st269⟩ := Jvm.LawKit.callS X0 hx (y := (⟨"java/util/Arrays", "copyOfRangeLong", "([JII)[J"⟩ : MethodName)) hown (mvT hZ (ow hw 56 rfl)) (mvT hZ (ow hw 57 rfl)) (mvT hZ (ow hw 38 rfl)) (mvT hZ (ow hw 58 rfl)) (by decide) (backOf (W := 0) (rm_crl10 l Z a0 hw [] g GG h0 n0 _ Z0 (by simp only [sj_len, List.length_replicate, hlG]) V0 O0) hZ (ow hw 58 rfl) (ow hw 38 rfl) (by decide) (by decide)) (g := (mkF m 13 #[rv g, iv (0 : Int32), iv (1 : Int32)] [(.int (1 : Int32)), (.int (0 : Int32)), (.ref g)])) rfl (by rw [hml]; rfl) (argsL := [(.ref g), (.int (0 : Int32)), (.int (1 : Int32))]) (rest := []) (lenOf pd_6 rfl) rfl (by show 2 * 0 + _ ≤ _; exact Nat.le_of_eq rfl) (hb hby dj65m138_13) (fun _ _ => ⟨rfl, e0, Nat.le_of_ble_eq_true rfl, Nat.le_of_ble_eq_true rfl⟩)
  dsimp only [Pt.U, Pt.locs, Pt.cells, Pt.slots] at X269 l269 y269 z269 st269 hQ269
  rw [l269, y269, z269] at X269
  obtain ⟨d269, rfl, N269q, V269, O269q⟩ := hQ269
  have N269 := Fr.app N0 N269q
  have V269v : OView Z n0 T269.heap (oB d269 [(gj GG (0 : Int32))] :: oB g GG :: F) := V269
  have Z269 : n0 ≤ T269.heap.size := V269v.big 0 rfl
  refine OGets.step st269 ?_
  refine OGets.retA X269 hx hlk (t := (.array .long)) Bd.returns rfl rfl rfl (hb hby dj65m138_16) (Nat.le_of_ble_eq_true rfl) (Nat.le_of_ble_eq_true rfl) ?_
  exact ⟨d269, rfl, N269, V269v, O269q⟩
theorem ef_ck11 (m : MethodId) (x0 : Int32) (x1 : Int32) : entryFrame m #[(.int x0), (.int x1)] 2 = mkF m 0 #[.val (.int x0), .val (.int x1)] [] := by first | (simp [entryFrame, mkF, argsToLocals, Value.category]; done) | rfl
def Q_ck11 (Z : State)  (h0 : Heap) (n0 : Nat) (v : Option Value) (h : Heap) (L : List Loc) : Prop := v = none ∧ L = [] ∧ h = h0
set_option maxRecDepth 65536 in
set_option maxHeartbeats 40000000 in
theorem rm_ck11 (l : Launch) (Z : State) (a0 : Array Value) (hw : ∀ d ∈ tables_1, d.before a0 Z = true) (ws : List Jvm.Cond)  (h0 : Heap) (n0 : Nat) (Z0 : n0 ≤ h0.size) :
    MetFree l (⟨"java/util/Arrays", "checkLength", "(II)V"⟩ : MethodName) (head1 (Jvm.Cond.code (⟨"java/util/Arrays", "checkLength", "(II)V"⟩ : MethodName) jdk_65_method_131_code 2 none :: ws) ({ frames := 0, cells := 0, slots := 0, locals := 0 } : Room)) (fun a_ U => a_ = #[(.int (1 : Int32)), (.int (2 : Int32))] ∧ Z.Warmed39 U.vm ∧ U.heap = h0) (fun _ _ _ _ _ => True) (fun _ U o U' => ∃ v L, o = .returned v ∧ Q_ck11 Z  h0 n0 v U'.heap L ∧ FrameEnd U o U' L ({ frames := 0, cells := 0, slots := 0, locals := 0 } : Room).cells ({ frames := 0, cells := 0, slots := 0, locals := 0 } : Room).slots) := by
  refine MetFree.of_bodySF (plainFor_of_name pn_1) hisR ?_
  intro p e s m args below meth c s₁ Bd hml0 hP hK
  obtain ⟨rfl, hZ, hh⟩ := hP
  have hx := Bd.exec
  have hby := Bd.bytes
  have hlk : meth.locks = false := Bd.notSynchronized
  have hml : c.maxLocals = 2 := hml0
  have hown : s.vm.findClass "java/util/Arrays" = some m.cls := findClass_of_methodNamed Bd.named
  have hnm := (name_of_methodNamed Bd.named Bd.method).1
  have X0 : Stand p l e ({ frames := 0, cells := 0, slots := 0, locals := 0 } : Room) s m #[(.int (1 : Int32)), (.int (2 : Int32))] below meth c s₁ [] 0 0 := Stand.of_body Bd
  have e0 : s₁.heap = h0 := by rw [← hh, Bd.state]; rfl
  have N0 := Fr.nil n0
  show OGets p e below (OLeaves s (Q_ck11 Z  h0 n0 ) ({ frames := 0, cells := 0, slots := 0, locals := 0 } : Room).cells ({ frames := 0, cells := 0, slots := 0, locals := 0 } : Room).slots) _
  refine OGets.enter (ef_ck11 m (1 : Int32) (2 : Int32)) ?_
  show OGets p e below _ (s₁.setTop (mkF m 0 #[iv (1 : Int32), iv (2 : Int32)] []))
  refine OGets.step (fun _ => XS.iloadN X0.here hx rfl (hb hby dj65m131_0) rfl) ?_
  refine OGets.step (fun _ => XS.iloadN X0.here hx rfl (hb hby dj65m131_1) rfl) ?_
  refine OGets.step (fun _ => XS.icmpYes X0.here hx rfl (pc0 := 2) (pc' := 37) rfl (hb hby dj65m131_2) rfl (flt (by decide : ¬ ((2 : Int32) < (1 : Int32)))).2.1 (by decide) (by decide)) ?_
  refine OGets.retV X0 hx hlk Bd.returns (hb hby dj65m131_37) (Nat.le_of_ble_eq_true rfl) (Nat.le_of_ble_eq_true rfl) ?_
  exact ⟨rfl, rfl, e0⟩
theorem ef_crl11 (m : MethodId) (x0 : Addr) (x1 : Int32) (x2 : Int32) : entryFrame m #[(.ref x0), (.int x1), (.int x2)] 5 = mkF m 0 #[.val (.ref x0), .val (.int x1), .val (.int x2), .unset, .unset] [] := by first | (simp [entryFrame, mkF, argsToLocals, Value.category]; done) | rfl
def Q_crl11 (Z : State) (g : Addr) (GG : List Int64) (h0 : Heap) (n0 : Nat) (F : List (Addr × OObj)) (v : Option Value) (h : Heap) (L : List Loc) : Prop := ∃ d : Addr, v = some (.ref d) ∧ Fr n0 L ∧ OView Z n0 h (oB d [(gj GG (1 : Int32))] :: oB g GG :: F) ∧ Old Z n0 h
set_option maxRecDepth 65536 in
set_option maxHeartbeats 40000000 in
theorem rm_crl11 (l : Launch) (Z : State) (a0 : Array Value) (hw : ∀ d ∈ tables_1, d.before a0 Z = true) (ws : List Jvm.Cond) (g : Addr) (GG : List Int64) (h0 : Heap) (n0 : Nat) (F : List (Addr × OObj)) (Z0 : n0 ≤ h0.size) (hlG : GG.length = 16) (V0 : OView Z n0 h0 (oB g GG :: F)) (O0 : Old Z n0 h0) :
    MetFree l (⟨"java/util/Arrays", "copyOfRangeLong", "([JII)[J"⟩ : MethodName) (head1 (Jvm.Cond.code (⟨"java/util/Arrays", "copyOfRangeLong", "([JII)[J"⟩ : MethodName) jdk_65_method_139_code 5 (some (.array .long)) :: ws) ({ frames := 1, cells := 1, slots := 1, locals := 18 } : Room)) (fun a_ U => a_ = #[(.ref g), (.int (1 : Int32)), (.int (2 : Int32))] ∧ Z.Warmed39 U.vm ∧ U.heap = h0) (fun _ _ _ _ _ => True) (fun _ U o U' => ∃ v L, o = .returned v ∧ Q_crl11 Z g GG h0 n0 F v U'.heap L ∧ FrameEnd U o U' L ({ frames := 1, cells := 1, slots := 1, locals := 18 } : Room).cells ({ frames := 1, cells := 1, slots := 1, locals := 18 } : Room).slots) := by
  refine MetFree.of_bodySF (plainFor_of_name pn_1) hisR ?_
  intro p e s m args below meth c s₁ Bd hml0 hP hK
  obtain ⟨rfl, hZ, hh⟩ := hP
  have hx := Bd.exec
  have hby := Bd.bytes
  have hlk : meth.locks = false := Bd.notSynchronized
  have hml : c.maxLocals = 5 := hml0
  have hown : s.vm.findClass "java/util/Arrays" = some m.cls := findClass_of_methodNamed Bd.named
  have hnm := (name_of_methodNamed Bd.named Bd.method).1
  have X0 : Stand p l e ({ frames := 1, cells := 1, slots := 1, locals := 18 } : Room) s m #[(.ref g), (.int (1 : Int32)), (.int (2 : Int32))] below meth c s₁ [] 0 0 := Stand.of_body Bd
  have e0 : s₁.heap = h0 := by rw [← hh, Bd.state]; rfl
  have N0 := Fr.nil n0
  show OGets p e below (OLeaves s (Q_crl11 Z g GG h0 n0 F ) ({ frames := 1, cells := 1, slots := 1, locals := 18 } : Room).cells ({ frames := 1, cells := 1, slots := 1, locals := 18 } : Room).slots) _
  refine OGets.enter (ef_crl11 m g (1 : Int32) (2 : Int32)) ?_
  show OGets p e below _ (s₁.setTop (mkF m 0 #[rv g, iv (1 : Int32), iv (2 : Int32), uv, uv] []))
  refine OGets.step (fun _ => XS.iloadN X0.here hx rfl (hb hby dj65m139_0) rfl) ?_
  refine OGets.step (fun _ => XS.iloadN X0.here hx rfl (hb hby dj65m139_1) rfl) ?_
  obtain ⟨_, _, ⟨T271, L271, k271, n271⟩, -, X271, ⟨Lc271, hQ271, l271, y271, z271⟩, st271⟩ := Jvm.LawKit.callS X0 hx (y := (⟨"java/util/Arrays", "checkLength", "(II)V"⟩ : MethodName)) hown (mvT hZ (ow hw 59 rfl)) (mvT hZ (ow hw 60 rfl)) (mvT hZ (ow hw 38 rfl)) (mvT hZ (ow hw 61 rfl)) (by decide) (backOf (W := 0) (rm_ck11 l Z a0 hw []  h0 n0  Z0 ) hZ (ow hw 61 rfl) (ow hw 38 rfl) (by decide) (by decide)) (g := (mkF m 2 #[rv g, iv (1 : Int32), iv (2 : Int32), uv, uv] [(.int (2 : Int32)), (.int (1 : Int32))])) rfl (by rw [hml]; rfl) (argsL := [(.int (1 : Int32)), (.int (2 : Int32))]) (rest := []) (lenOf pd_4 rfl) rfl (by show 2 * 0 + _ ≤ _; exact Nat.le_of_eq rfl) (hb hby dj65m139_2) (fun _ _ => ⟨rfl, e0, Nat.le_of_ble_eq_true rfl, Nat.le_of_ble_eq_true rfl⟩)
  dsimp only [Pt.U, Pt.locs, Pt.cells, Pt.slots] at X271 l271 y271 z271 st271 hQ271
  rw [l271, y271, z271] at X271
  obtain ⟨rfl, rfl, e271⟩ := hQ271
  have N271 := Fr.app N0 (Fr.nil n0)
  refine OGets.step st271 ?_
  refine OGets.step (fun _ => XS.iloadN X271.here hx rfl (hb hby dj65m139_5) rfl) ?_
  refine OGets.step (fun _ => XS.iloadN X271.here hx rfl (hb hby dj65m139_6) rfl) ?_
  refine OGets.step (fun _ => XS.isub X271.here hx rfl (hb hby dj65m139_7) rfl) ?_
  show OGets p e below _ (T271.setTop (mkF m 8 #[rv g, iv (1 : Int32), iv (2 : Int32), uv, uv] [(.int (1 : Int32))]))
  refine OGets.step (fun _ => XS.istoreN X271.here hx rfl (hb hby dj65m139_8) rfl (l' := #[rv g, iv (1 : Int32), iv (2 : Int32), iv (1 : Int32), uv]) rfl) ?_
  refine OGets.step (fun _ => XS.iloadN X271.here hx rfl (hb hby dj65m139_9) rfl) ?_
  obtain ⟨T272, h272, k272, X272, e272, E272, A272, Ex272, st272⟩ := newPE X271 hx hZ (ow hw 0 rfl) e271 (g := (mkF m 10 #[rv g, iv (1 : Int32), iv (2 : Int32), iv (1 : Int32), uv] [(.int (1 : Int32))])) rfl (hb hby dj65m139_10) rfl (by decide) (cap := 1) (by decide) (by decide) (by decide) (by decide) (ad := "[J") (by decide +kernel)
  have V272' := V0.newArr Z0 E272 A272 1 rfl (fun _ => Ex272)
  have Z272 : n0 ≤ h272.size := Nat.le_trans Z0 E272.1
  obtain ⟨b272, g272⟩ : ∃ z, z = h0.size := ⟨_, rfl⟩
  rw [← g272] at V272' st272
  have V272 : OView Z n0 h272 (oB b272 [(0 : Int64)] :: oB g GG :: F) := V272'
  have O272 := O0.ext E272
  refine OGets.step st272 ?_
  refine OGets.step (fun _ => XS.astore X272.here hx rfl (hb hby dj65m139_12) rfl rfl (l' := #[rv g, iv (1 : Int32), iv (2 : Int32), iv (1 : Int32), rv b272]) rfl) ?_
  refine OGets.step (fun _ => XS.aloadN X272.here hx rfl (hb hby dj65m139_14) rfl rfl) ?_
  refine OGets.step (fun _ => XS.iloadN X272.here hx rfl (hb hby dj65m139_15) rfl) ?_
  refine OGets.step (fun _ => XS.aload X272.here hx rfl (hb hby dj65m139_16) rfl rfl) ?_
  refine OGets.step (fun _ => XS.iconst X272.here hx rfl (hb hby dj65m139_18)) ?_
  show OGets p e below _ (T272.setTop (mkF m 19 #[rv g, iv (1 : Int32), iv (2 : Int32), iv (1 : Int32), rv b272] [(.int (0 : Int32)), (.ref b272), (.int (1 : Int32)), (.ref g)]))
  refine OGets.step (fun _ => XS.aloadN X272.here hx rfl (hb hby dj65m139_19) rfl rfl) ?_
  obtain ⟨cl273, Ar273, S273⟩ := V272.arr 1 rfl
  have ln273 : cl273.slots.size.toInt32 = (16 : Int32) := by rw [own_len S273]; simp only [List.length_map, si_len, sj_len, List.length_replicate, hlG]; rfl
  refine OGets.step (U' := T272.setTop (mkF m 21 #[rv g, iv (1 : Int32), iv (2 : Int32), iv (1 : Int32), rv b272] [(.int (16 : Int32)), (.int (0 : Int32)), (.ref b272), (.int (1 : Int32)), (.ref g)])) (fun t kt => ?_) ?_
  · refine X272.arraylength hx (by rw [e272]; exact Ar273.1) (State.isArrayOf_alike hZ.alike Ar273.2.1) (g := (mkF m 20 #[rv g, iv (1 : Int32), iv (2 : Int32), iv (1 : Int32), rv b272] [(.ref g), (.int (0 : Int32)), (.ref b272), (.int (1 : Int32)), (.ref g)])) rfl rfl (hb hby dj65m139_20) _ ?_
    rw [ln273]; exact kt
  refine OGets.step (fun _ => XS.iloadN X272.here hx rfl (hb hby dj65m139_21) rfl) ?_
  refine OGets.step (fun _ => XS.isub X272.here hx rfl (hb hby dj65m139_22) rfl) ?_
  show OGets p e below _ (T272.setTop (mkF m 23 #[rv g, iv (1 : Int32), iv (2 : Int32), iv (1 : Int32), rv b272] [(.int (15 : Int32)), (.int (0 : Int32)), (.ref b272), (.int (1 : Int32)), (.ref g)]))
  refine OGets.step (fun _ => XS.iloadN X272.here hx rfl (hb hby dj65m139_23) rfl) ?_
  obtain ⟨_, _, ⟨T274, L274, k274, n274⟩, -, X274, ⟨Lc274, hQ274, l274, y274, z274⟩, st274⟩ := Jvm.LawKit.callS X272 hx (y := (⟨"java/lang/Math", "min", "(II)I"⟩ : MethodName)) hown (mvT hZ (ow hw 62 rfl)) (mvT hZ (ow hw 63 rfl)) (mvT hZ (ow hw 64 rfl)) (mvT hZ (ow hw 65 rfl)) (by decide) (backOf (W := 4) (rm_mn l Z a0 hw [] (15 : Int32) (1 : Int32) h272 n0  Z272 ) hZ (ow hw 65 rfl) (ow hw 64 rfl) (by decide) (by decide)) (g := (mkF m 24 #[rv g, iv (1 : Int32), iv (2 : Int32), iv (1 : Int32), rv b272] [(.int (1 : Int32)), (.int (15 : Int32)), (.int (0 : Int32)), (.ref b272), (.int (1 : Int32)), (.ref g)])) rfl (by rw [hml]; rfl) (argsL := [(.int (15 : Int32)), (.int (1 : Int32))]) (rest := [(.int (0 : Int32)), (.ref b272), (.int (1 : Int32)), (.ref g)]) (lenOf pd_5 rfl) rfl (by show 2 * 0 + _ ≤ _; exact Nat.le_of_eq rfl) (hb hby dj65m139_24) (fun _ _ => ⟨rfl, e272, Nat.le_of_ble_eq_true rfl, Nat.le_of_ble_eq_true rfl⟩)
  dsimp only [Pt.U, Pt.locs, Pt.cells, Pt.slots] at X274 l274 y274 z274 st274 hQ274
  rw [l274, y274, z274] at X274
  obtain ⟨rfl, rfl, e274⟩ := hQ274
  have N274 := Fr.app N271 (Fr.nil n0)
  rw [show f_mn (15 : Int32) (1 : Int32) = (1 : Int32) from by decide] at st274
  refine OGets.step st274 ?_
  obtain ⟨cs275, As275, Ss275⟩ := V272.arr 1 rfl
  obtain ⟨cd275, Ad275, Sd275⟩ := V272.arr 0 rfl
  obtain ⟨T275, h275, L275, X275, e275, N275, K275, B275, st275⟩ := cpA X274 hx hZ hown (ow hw 66 rfl) (ow hw 69 rfl) (ow hw 67 rfl) (ow hw 68 rfl) e274 (sp := (1 : Int32)) (dp := (0 : Int32)) (nn := (1 : Int32)) (us := [.long (gj GG (1 : Int32))]) (own_arv (L := GG) As275 Ss275 (16 : Int32) (by simp only [List.length_map, si_len, sj_len, List.length_replicate, hlG]; rfl)) (own_arv (L := [(0 : Int64)]) Ad275 Sd275 (1 : Int32) rfl) (Or.inl ⟨rfl, rfl⟩) (by decide) (by decide) (by decide) (by decide) (by decide) (own_us1 _ _) (by decide) N274 (V272.old 0 rfl) (g := (mkF m 27 #[rv g, iv (1 : Int32), iv (2 : Int32), iv (1 : Int32), rv b272] [(.int (1 : Int32)), (.int (0 : Int32)), (.ref b272), (.int (1 : Int32)), (.ref g)])) rfl (by rw [hml]; rfl) rfl (hb hby dj65m139_27) (by decide) (W := 0) (by show 2 * 0 + _ ≤ _; exact Nat.le_of_eq rfl) (by decide)
  have V275 : OView Z n0 h275 (oB b272 [(gj GG (1 : Int32))] :: oB g GG :: F) := V272.copied 0 rfl K275 B275 rfl
  have Z275 : n0 ≤ h275.size := Nat.le_trans Z272 K275.1
  have O275 := O272.keep K275 (allS (V272.old 0 rfl) all0)
  refine OGets.step st275 ?_
  refine OGets.step (fun _ => XS.aload X275.here hx rfl (hb hby dj65m139_30) rfl rfl) ?_
  refine OGets.retA X275 hx hlk (t := (.array .long)) Bd.returns rfl rfl rfl (hb hby dj65m139_32) (Nat.le_of_ble_eq_true rfl) (Nat.le_of_ble_eq_true rfl) ?_
  rw [e275]
  exact ⟨b272, rfl, N275, V275, O275⟩
theorem ef_cr11 (m : MethodId) (x0 : Addr) (x1 : Int32) (x2 : Int32) : entryFrame m #[(.ref x0), (.int x1), (.int x2)] 3 = mkF m 0 #[.val (.ref x0), .val (.int x1), .val (.int x2)] [] := by first | (simp [entryFrame, mkF, argsToLocals, Value.category]; done) | rfl
def Q_cr11 (Z : State) (g : Addr) (GG : List Int64) (h0 : Heap) (n0 : Nat) (F : List (Addr × OObj)) (v : Option Value) (h : Heap) (L : List Loc) : Prop := ∃ d : Addr, v = some (.ref d) ∧ Fr n0 L ∧ OView Z n0 h (oB d [(gj GG (1 : Int32))] :: oB g GG :: F) ∧ Old Z n0 h
set_option maxRecDepth 65536 in
set_option maxHeartbeats 40000000 in
theorem rm_cr11 (l : Launch) (Z : State) (a0 : Array Value) (hw : ∀ d ∈ tables_1, d.before a0 Z = true) (ws : List Jvm.Cond) (g : Addr) (GG : List Int64) (h0 : Heap) (n0 : Nat) (F : List (Addr × OObj)) (Z0 : n0 ≤ h0.size) (hlG : GG.length = 16) (V0 : OView Z n0 h0 (oB g GG :: F)) (O0 : Old Z n0 h0) :
    MetFree l (⟨"java/util/Arrays", "copyOfRange", "([JII)[J"⟩ : MethodName) (head1 (Jvm.Cond.code (⟨"java/util/Arrays", "copyOfRange", "([JII)[J"⟩ : MethodName) jdk_65_method_138_code 3 (some (.array .long)) :: ws) ({ frames := 2, cells := 1, slots := 1, locals := 34 } : Room)) (fun a_ U => a_ = #[(.ref g), (.int (1 : Int32)), (.int (2 : Int32))] ∧ Z.Warmed39 U.vm ∧ U.heap = h0) (fun _ _ _ _ _ => True) (fun _ U o U' => ∃ v L, o = .returned v ∧ Q_cr11 Z g GG h0 n0 F v U'.heap L ∧ FrameEnd U o U' L ({ frames := 2, cells := 1, slots := 1, locals := 34 } : Room).cells ({ frames := 2, cells := 1, slots := 1, locals := 34 } : Room).slots) := by
  refine MetFree.of_bodySF (plainFor_of_name pn_1) hisR ?_
  intro p e s m args below meth c s₁ Bd hml0 hP hK
  obtain ⟨rfl, hZ, hh⟩ := hP
  have hx := Bd.exec
  have hby := Bd.bytes
  have hlk : meth.locks = false := Bd.notSynchronized
  have hml : c.maxLocals = 3 := hml0
  have hown : s.vm.findClass "java/util/Arrays" = some m.cls := findClass_of_methodNamed Bd.named
  have hnm := (name_of_methodNamed Bd.named Bd.method).1
  have X0 : Stand p l e ({ frames := 2, cells := 1, slots := 1, locals := 34 } : Room) s m #[(.ref g), (.int (1 : Int32)), (.int (2 : Int32))] below meth c s₁ [] 0 0 := Stand.of_body Bd
  have e0 : s₁.heap = h0 := by rw [← hh, Bd.state]; rfl
  have N0 := Fr.nil n0
  show OGets p e below (OLeaves s (Q_cr11 Z g GG h0 n0 F ) ({ frames := 2, cells := 1, slots := 1, locals := 34 } : Room).cells ({ frames := 2, cells := 1, slots := 1, locals := 34 } : Room).slots) _
  refine OGets.enter (ef_cr11 m g (1 : Int32) (2 : Int32)) ?_
  show OGets p e below _ (s₁.setTop (mkF m 0 #[rv g, iv (1 : Int32), iv (2 : Int32)] []))
  refine OGets.step (fun _ => XS.iloadN X0.here hx rfl (hb hby dj65m138_0) rfl) ?_
  refine OGets.step (fun _ => XS.ifYes X0.here hx rfl (pc0 := 1) (pc' := 10) rfl (hb hby dj65m138_1) rfl ((if0 _ _).trans (feq (by decide : ¬ ((1 : Int32) = (0 : Int32)))).2) (by decide) (by decide)) ?_
  refine OGets.step (fun _ => XS.aloadN X0.here hx rfl (hb hby dj65m138_10) rfl rfl) ?_
  refine OGets.step (fun _ => XS.iloadN X0.here hx rfl (hb hby dj65m138_11) rfl) ?_
  refine OGets.step (fun _ => XS.iloadN X0.here hx rfl (hb hby dj65m138_12) rfl) ?_
  obtain ⟨_, _, ⟨T277, L277, k277, n277⟩, -, X277, ⟨Lc277, hQ277, l277, y277, z277⟩, st277⟩ := Jvm.LawKit.callS X0 hx (y := (⟨"java/util/Arrays", "copyOfRangeLong", "([JII)[J"⟩ : MethodName)) hown (mvT hZ (ow hw 56 rfl)) (mvT hZ (ow hw 57 rfl)) (mvT hZ (ow hw 38 rfl)) (mvT hZ (ow hw 58 rfl)) (by decide) (backOf (W := 0) (rm_crl11 l Z a0 hw [] g GG h0 n0 _ Z0 (by simp only [sj_len, List.length_replicate, hlG]) V0 O0) hZ (ow hw 58 rfl) (ow hw 38 rfl) (by decide) (by decide)) (g := (mkF m 13 #[rv g, iv (1 : Int32), iv (2 : Int32)] [(.int (2 : Int32)), (.int (1 : Int32)), (.ref g)])) rfl (by rw [hml]; rfl) (argsL := [(.ref g), (.int (1 : Int32)), (.int (2 : Int32))]) (rest := []) (lenOf pd_6 rfl) rfl (by show 2 * 0 + _ ≤ _; exact Nat.le_of_eq rfl) (hb hby dj65m138_13) (fun _ _ => ⟨rfl, e0, Nat.le_of_ble_eq_true rfl, Nat.le_of_ble_eq_true rfl⟩)
  dsimp only [Pt.U, Pt.locs, Pt.cells, Pt.slots] at X277 l277 y277 z277 st277 hQ277
  rw [l277, y277, z277] at X277
  obtain ⟨d277, rfl, N277q, V277, O277q⟩ := hQ277
  have N277 := Fr.app N0 N277q
  have V277v : OView Z n0 T277.heap (oB d277 [(gj GG (1 : Int32))] :: oB g GG :: F) := V277
  have Z277 : n0 ≤ T277.heap.size := V277v.big 0 rfl
  refine OGets.step st277 ?_
  refine OGets.retA X277 hx hlk (t := (.array .long)) Bd.returns rfl rfl rfl (hb hby dj65m138_16) (Nat.le_of_ble_eq_true rfl) (Nat.le_of_ble_eq_true rfl) ?_
  exact ⟨d277, rfl, N277, V277v, O277q⟩
theorem ef_ck20 (m : MethodId) (x0 : Int32) (x1 : Int32) : entryFrame m #[(.int x0), (.int x1)] 2 = mkF m 0 #[.val (.int x0), .val (.int x1)] [] := by first | (simp [entryFrame, mkF, argsToLocals, Value.category]; done) | rfl
def Q_ck20 (Z : State)  (h0 : Heap) (n0 : Nat) (v : Option Value) (h : Heap) (L : List Loc) : Prop := v = none ∧ L = [] ∧ h = h0
set_option maxRecDepth 65536 in
set_option maxHeartbeats 40000000 in
theorem rm_ck20 (l : Launch) (Z : State) (a0 : Array Value) (hw : ∀ d ∈ tables_1, d.before a0 Z = true) (ws : List Jvm.Cond)  (h0 : Heap) (n0 : Nat) (Z0 : n0 ≤ h0.size) :
    MetFree l (⟨"java/util/Arrays", "checkLength", "(II)V"⟩ : MethodName) (head1 (Jvm.Cond.code (⟨"java/util/Arrays", "checkLength", "(II)V"⟩ : MethodName) jdk_65_method_131_code 2 none :: ws) ({ frames := 0, cells := 0, slots := 0, locals := 0 } : Room)) (fun a_ U => a_ = #[(.int (0 : Int32)), (.int (2 : Int32))] ∧ Z.Warmed39 U.vm ∧ U.heap = h0) (fun _ _ _ _ _ => True) (fun _ U o U' => ∃ v L, o = .returned v ∧ Q_ck20 Z  h0 n0 v U'.heap L ∧ FrameEnd U o U' L ({ frames := 0, cells := 0, slots := 0, locals := 0 } : Room).cells ({ frames := 0, cells := 0, slots := 0, locals := 0 } : Room).slots) := by
  refine MetFree.of_bodySF (plainFor_of_name pn_1) hisR ?_
  intro p e s m args below meth c s₁ Bd hml0 hP hK
  obtain ⟨rfl, hZ, hh⟩ := hP
  have hx := Bd.exec
  have hby := Bd.bytes
  have hlk : meth.locks = false := Bd.notSynchronized
  have hml : c.maxLocals = 2 := hml0
  have hown : s.vm.findClass "java/util/Arrays" = some m.cls := findClass_of_methodNamed Bd.named
  have hnm := (name_of_methodNamed Bd.named Bd.method).1
  have X0 : Stand p l e ({ frames := 0, cells := 0, slots := 0, locals := 0 } : Room) s m #[(.int (0 : Int32)), (.int (2 : Int32))] below meth c s₁ [] 0 0 := Stand.of_body Bd
  have e0 : s₁.heap = h0 := by rw [← hh, Bd.state]; rfl
  have N0 := Fr.nil n0
  show OGets p e below (OLeaves s (Q_ck20 Z  h0 n0 ) ({ frames := 0, cells := 0, slots := 0, locals := 0 } : Room).cells ({ frames := 0, cells := 0, slots := 0, locals := 0 } : Room).slots) _
  refine OGets.enter (ef_ck20 m (0 : Int32) (2 : Int32)) ?_
  show OGets p e below _ (s₁.setTop (mkF m 0 #[iv (0 : Int32), iv (2 : Int32)] []))
  refine OGets.step (fun _ => XS.iloadN X0.here hx rfl (hb hby dj65m131_0) rfl) ?_
  refine OGets.step (fun _ => XS.iloadN X0.here hx rfl (hb hby dj65m131_1) rfl) ?_
  refine OGets.step (fun _ => XS.icmpYes X0.here hx rfl (pc0 := 2) (pc' := 37) rfl (hb hby dj65m131_2) rfl (flt (by decide : ¬ ((2 : Int32) < (0 : Int32)))).2.1 (by decide) (by decide)) ?_
  refine OGets.retV X0 hx hlk Bd.returns (hb hby dj65m131_37) (Nat.le_of_ble_eq_true rfl) (Nat.le_of_ble_eq_true rfl) ?_
  exact ⟨rfl, rfl, e0⟩
theorem ef_crl20 (m : MethodId) (x0 : Addr) (x1 : Int32) (x2 : Int32) : entryFrame m #[(.ref x0), (.int x1), (.int x2)] 5 = mkF m 0 #[.val (.ref x0), .val (.int x1), .val (.int x2), .unset, .unset] [] := by first | (simp [entryFrame, mkF, argsToLocals, Value.category]; done) | rfl
def Q_crl20 (Z : State) (g : Addr) (GG : List Int64) (h0 : Heap) (n0 : Nat) (F : List (Addr × OObj)) (v : Option Value) (h : Heap) (L : List Loc) : Prop := ∃ d : Addr, v = some (.ref d) ∧ Fr n0 L ∧ OView Z n0 h (oB d [(gj GG (0 : Int32)), (gj GG (1 : Int32))] :: oB g GG :: F) ∧ Old Z n0 h
set_option maxRecDepth 65536 in
set_option maxHeartbeats 40000000 in
theorem rm_crl20 (l : Launch) (Z : State) (a0 : Array Value) (hw : ∀ d ∈ tables_1, d.before a0 Z = true) (ws : List Jvm.Cond) (g : Addr) (GG : List Int64) (h0 : Heap) (n0 : Nat) (F : List (Addr × OObj)) (Z0 : n0 ≤ h0.size) (hlG : GG.length = 32) (V0 : OView Z n0 h0 (oB g GG :: F)) (O0 : Old Z n0 h0) :
    MetFree l (⟨"java/util/Arrays", "copyOfRangeLong", "([JII)[J"⟩ : MethodName) (head1 (Jvm.Cond.code (⟨"java/util/Arrays", "copyOfRangeLong", "([JII)[J"⟩ : MethodName) jdk_65_method_139_code 5 (some (.array .long)) :: ws) ({ frames := 1, cells := 1, slots := 2, locals := 18 } : Room)) (fun a_ U => a_ = #[(.ref g), (.int (0 : Int32)), (.int (2 : Int32))] ∧ Z.Warmed39 U.vm ∧ U.heap = h0) (fun _ _ _ _ _ => True) (fun _ U o U' => ∃ v L, o = .returned v ∧ Q_crl20 Z g GG h0 n0 F v U'.heap L ∧ FrameEnd U o U' L ({ frames := 1, cells := 1, slots := 2, locals := 18 } : Room).cells ({ frames := 1, cells := 1, slots := 2, locals := 18 } : Room).slots) := by
  refine MetFree.of_bodySF (plainFor_of_name pn_1) hisR ?_
  intro p e s m args below meth c s₁ Bd hml0 hP hK
  obtain ⟨rfl, hZ, hh⟩ := hP
  have hx := Bd.exec
  have hby := Bd.bytes
  have hlk : meth.locks = false := Bd.notSynchronized
  have hml : c.maxLocals = 5 := hml0
  have hown : s.vm.findClass "java/util/Arrays" = some m.cls := findClass_of_methodNamed Bd.named
  have hnm := (name_of_methodNamed Bd.named Bd.method).1
  have X0 : Stand p l e ({ frames := 1, cells := 1, slots := 2, locals := 18 } : Room) s m #[(.ref g), (.int (0 : Int32)), (.int (2 : Int32))] below meth c s₁ [] 0 0 := Stand.of_body Bd
  have e0 : s₁.heap = h0 := by rw [← hh, Bd.state]; rfl
  have N0 := Fr.nil n0
  show OGets p e below (OLeaves s (Q_crl20 Z g GG h0 n0 F ) ({ frames := 1, cells := 1, slots := 2, locals := 18 } : Room).cells ({ frames := 1, cells := 1, slots := 2, locals := 18 } : Room).slots) _
  refine OGets.enter (ef_crl20 m g (0 : Int32) (2 : Int32)) ?_
  show OGets p e below _ (s₁.setTop (mkF m 0 #[rv g, iv (0 : Int32), iv (2 : Int32), uv, uv] []))
  refine OGets.step (fun _ => XS.iloadN X0.here hx rfl (hb hby dj65m139_0) rfl) ?_
  refine OGets.step (fun _ => XS.iloadN X0.here hx rfl (hb hby dj65m139_1) rfl) ?_
  obtain ⟨_, _, ⟨T279, L279, k279, n279⟩, -, X279, ⟨Lc279, hQ279, l279, y279, z279⟩, st279⟩ := Jvm.LawKit.callS X0 hx (y := (⟨"java/util/Arrays", "checkLength", "(II)V"⟩ : MethodName)) hown (mvT hZ (ow hw 59 rfl)) (mvT hZ (ow hw 60 rfl)) (mvT hZ (ow hw 38 rfl)) (mvT hZ (ow hw 61 rfl)) (by decide) (backOf (W := 0) (rm_ck20 l Z a0 hw []  h0 n0  Z0 ) hZ (ow hw 61 rfl) (ow hw 38 rfl) (by decide) (by decide)) (g := (mkF m 2 #[rv g, iv (0 : Int32), iv (2 : Int32), uv, uv] [(.int (2 : Int32)), (.int (0 : Int32))])) rfl (by rw [hml]; rfl) (argsL := [(.int (0 : Int32)), (.int (2 : Int32))]) (rest := []) (lenOf pd_4 rfl) rfl (by show 2 * 0 + _ ≤ _; exact Nat.le_of_eq rfl) (hb hby dj65m139_2) (fun _ _ => ⟨rfl, e0, Nat.le_of_ble_eq_true rfl, Nat.le_of_ble_eq_true rfl⟩)
  dsimp only [Pt.U, Pt.locs, Pt.cells, Pt.slots] at X279 l279 y279 z279 st279 hQ279
  rw [l279, y279, z279] at X279
  obtain ⟨rfl, rfl, e279⟩ := hQ279
  have N279 := Fr.app N0 (Fr.nil n0)
  refine OGets.step st279 ?_
  refine OGets.step (fun _ => XS.iloadN X279.here hx rfl (hb hby dj65m139_5) rfl) ?_
  refine OGets.step (fun _ => XS.iloadN X279.here hx rfl (hb hby dj65m139_6) rfl) ?_
  refine OGets.step (fun _ => XS.isub X279.here hx rfl (hb hby dj65m139_7) rfl) ?_
  show OGets p e below _ (T279.setTop (mkF m 8 #[rv g, iv (0 : Int32), iv (2 : Int32), uv, uv] [(.int (2 : Int32))]))
  refine OGets.step (fun _ => XS.istoreN X279.here hx rfl (hb hby dj65m139_8) rfl (l' := #[rv g, iv (0 : Int32), iv (2 : Int32), iv (2 : Int32), uv]) rfl) ?_
  refine OGets.step (fun _ => XS.iloadN X279.here hx rfl (hb hby dj65m139_9) rfl) ?_
  obtain ⟨T280, h280, k280, X280, e280, E280, A280, Ex280, st280⟩ := newPE X279 hx hZ (ow hw 0 rfl) e279 (g := (mkF m 10 #[rv g, iv (0 : Int32), iv (2 : Int32), iv (2 : Int32), uv] [(.int (2 : Int32))])) rfl (hb hby dj65m139_10) rfl (by decide) (cap := 2) (by decide) (by decide) (by decide) (by decide) (ad := "[J") (by decide +kernel)
  have V280' := V0.newArr Z0 E280 A280 2 rfl (fun _ => Ex280)
  have Z280 : n0 ≤ h280.size := Nat.le_trans Z0 E280.1
  obtain ⟨b280, g280⟩ : ∃ z, z = h0.size := ⟨_, rfl⟩
  rw [← g280] at V280' st280
  have V280 : OView Z n0 h280 (oB b280 [(0 : Int64), (0 : Int64)] :: oB g GG :: F) := V280'
  have O280 := O0.ext E280
  refine OGets.step st280 ?_
  refine OGets.step (fun _ => XS.astore X280.here hx rfl (hb hby dj65m139_12) rfl rfl (l' := #[rv g, iv (0 : Int32), iv (2 : Int32), iv (2 : Int32), rv b280]) rfl) ?_
  refine OGets.step (fun _ => XS.aloadN X280.here hx rfl (hb hby dj65m139_14) rfl rfl) ?_
  refine OGets.step (fun _ => XS.iloadN X280.here hx rfl (hb hby dj65m139_15) rfl) ?_
  refine OGets.step (fun _ => XS.aload X280.here hx rfl (hb hby dj65m139_16) rfl rfl) ?_
  refine OGets.step (fun _ => XS.iconst X280.here hx rfl (hb hby dj65m139_18)) ?_
  show OGets p e below _ (T280.setTop (mkF m 19 #[rv g, iv (0 : Int32), iv (2 : Int32), iv (2 : Int32), rv b280] [(.int (0 : Int32)), (.ref b280), (.int (0 : Int32)), (.ref g)]))
  refine OGets.step (fun _ => XS.aloadN X280.here hx rfl (hb hby dj65m139_19) rfl rfl) ?_
  obtain ⟨cl281, Ar281, S281⟩ := V280.arr 1 rfl
  have ln281 : cl281.slots.size.toInt32 = (32 : Int32) := by rw [own_len S281]; simp only [List.length_map, si_len, sj_len, List.length_replicate, hlG]; rfl
  refine OGets.step (U' := T280.setTop (mkF m 21 #[rv g, iv (0 : Int32), iv (2 : Int32), iv (2 : Int32), rv b280] [(.int (32 : Int32)), (.int (0 : Int32)), (.ref b280), (.int (0 : Int32)), (.ref g)])) (fun t kt => ?_) ?_
  · refine X280.arraylength hx (by rw [e280]; exact Ar281.1) (State.isArrayOf_alike hZ.alike Ar281.2.1) (g := (mkF m 20 #[rv g, iv (0 : Int32), iv (2 : Int32), iv (2 : Int32), rv b280] [(.ref g), (.int (0 : Int32)), (.ref b280), (.int (0 : Int32)), (.ref g)])) rfl rfl (hb hby dj65m139_20) _ ?_
    rw [ln281]; exact kt
  refine OGets.step (fun _ => XS.iloadN X280.here hx rfl (hb hby dj65m139_21) rfl) ?_
  refine OGets.step (fun _ => XS.isub X280.here hx rfl (hb hby dj65m139_22) rfl) ?_
  show OGets p e below _ (T280.setTop (mkF m 23 #[rv g, iv (0 : Int32), iv (2 : Int32), iv (2 : Int32), rv b280] [(.int (32 : Int32)), (.int (0 : Int32)), (.ref b280), (.int (0 : Int32)), (.ref g)]))
  refine OGets.step (fun _ => XS.iloadN X280.here hx rfl (hb hby dj65m139_23) rfl) ?_
  obtain ⟨_, _, ⟨T282, L282, k282, n282⟩, -, X282, ⟨Lc282, hQ282, l282, y282, z282⟩, st282⟩ := Jvm.LawKit.callS X280 hx (y := (⟨"java/lang/Math", "min", "(II)I"⟩ : MethodName)) hown (mvT hZ (ow hw 62 rfl)) (mvT hZ (ow hw 63 rfl)) (mvT hZ (ow hw 64 rfl)) (mvT hZ (ow hw 65 rfl)) (by decide) (backOf (W := 4) (rm_mn l Z a0 hw [] (32 : Int32) (2 : Int32) h280 n0  Z280 ) hZ (ow hw 65 rfl) (ow hw 64 rfl) (by decide) (by decide)) (g := (mkF m 24 #[rv g, iv (0 : Int32), iv (2 : Int32), iv (2 : Int32), rv b280] [(.int (2 : Int32)), (.int (32 : Int32)), (.int (0 : Int32)), (.ref b280), (.int (0 : Int32)), (.ref g)])) rfl (by rw [hml]; rfl) (argsL := [(.int (32 : Int32)), (.int (2 : Int32))]) (rest := [(.int (0 : Int32)), (.ref b280), (.int (0 : Int32)), (.ref g)]) (lenOf pd_5 rfl) rfl (by show 2 * 0 + _ ≤ _; exact Nat.le_of_eq rfl) (hb hby dj65m139_24) (fun _ _ => ⟨rfl, e280, Nat.le_of_ble_eq_true rfl, Nat.le_of_ble_eq_true rfl⟩)
  dsimp only [Pt.U, Pt.locs, Pt.cells, Pt.slots] at X282 l282 y282 z282 st282 hQ282
  rw [l282, y282, z282] at X282
  obtain ⟨rfl, rfl, e282⟩ := hQ282
  have N282 := Fr.app N279 (Fr.nil n0)
  rw [show f_mn (32 : Int32) (2 : Int32) = (2 : Int32) from by decide] at st282
  refine OGets.step st282 ?_
  obtain ⟨cs283, As283, Ss283⟩ := V280.arr 1 rfl
  obtain ⟨cd283, Ad283, Sd283⟩ := V280.arr 0 rfl
  obtain ⟨T283, h283, L283, X283, e283, N283, K283, B283, st283⟩ := cpA X282 hx hZ hown (ow hw 66 rfl) (ow hw 69 rfl) (ow hw 67 rfl) (ow hw 68 rfl) e282 (sp := (0 : Int32)) (dp := (0 : Int32)) (nn := (2 : Int32)) (us := [.long (gj GG (0 : Int32)), .long (gj GG (1 : Int32))]) (own_arv (L := GG) As283 Ss283 (32 : Int32) (by simp only [List.length_map, si_len, sj_len, List.length_replicate, hlG]; rfl)) (own_arv (L := [(0 : Int64), (0 : Int64)]) Ad283 Sd283 (2 : Int32) rfl) (Or.inl ⟨rfl, rfl⟩) (by decide) (by decide) (by decide) (by decide) (by decide) (own_us2 _ _ _ rfl) (by decide) N282 (V280.old 0 rfl) (g := (mkF m 27 #[rv g, iv (0 : Int32), iv (2 : Int32), iv (2 : Int32), rv b280] [(.int (2 : Int32)), (.int (0 : Int32)), (.ref b280), (.int (0 : Int32)), (.ref g)])) rfl (by rw [hml]; rfl) rfl (hb hby dj65m139_27) (by decide) (W := 0) (by show 2 * 0 + _ ≤ _; exact Nat.le_of_eq rfl) (by decide)
  have V283 : OView Z n0 h283 (oB b280 [(gj GG (0 : Int32)), (gj GG (1 : Int32))] :: oB g GG :: F) := V280.copied 0 rfl K283 B283 rfl
  have Z283 : n0 ≤ h283.size := Nat.le_trans Z280 K283.1
  have O283 := O280.keep K283 (allS (V280.old 0 rfl) all0)
  refine OGets.step st283 ?_
  refine OGets.step (fun _ => XS.aload X283.here hx rfl (hb hby dj65m139_30) rfl rfl) ?_
  refine OGets.retA X283 hx hlk (t := (.array .long)) Bd.returns rfl rfl rfl (hb hby dj65m139_32) (Nat.le_of_ble_eq_true rfl) (Nat.le_of_ble_eq_true rfl) ?_
  rw [e283]
  exact ⟨b280, rfl, N283, V283, O283⟩
theorem ef_cr20 (m : MethodId) (x0 : Addr) (x1 : Int32) (x2 : Int32) : entryFrame m #[(.ref x0), (.int x1), (.int x2)] 3 = mkF m 0 #[.val (.ref x0), .val (.int x1), .val (.int x2)] [] := by first | (simp [entryFrame, mkF, argsToLocals, Value.category]; done) | rfl
def Q_cr20 (Z : State) (g : Addr) (GG : List Int64) (h0 : Heap) (n0 : Nat) (F : List (Addr × OObj)) (v : Option Value) (h : Heap) (L : List Loc) : Prop := ∃ d : Addr, v = some (.ref d) ∧ Fr n0 L ∧ OView Z n0 h (oB d [(gj GG (0 : Int32)), (gj GG (1 : Int32))] :: oB g GG :: F) ∧ Old Z n0 h
set_option maxRecDepth 65536 in
set_option maxHeartbeats 40000000 in
theorem rm_cr20 (l : Launch) (Z : State) (a0 : Array Value) (hw : ∀ d ∈ tables_1, d.before a0 Z = true) (ws : List Jvm.Cond) (g : Addr) (GG : List Int64) (h0 : Heap) (n0 : Nat) (F : List (Addr × OObj)) (Z0 : n0 ≤ h0.size) (hlG : GG.length = 32) (V0 : OView Z n0 h0 (oB g GG :: F)) (O0 : Old Z n0 h0) :
    MetFree l (⟨"java/util/Arrays", "copyOfRange", "([JII)[J"⟩ : MethodName) (head1 (Jvm.Cond.code (⟨"java/util/Arrays", "copyOfRange", "([JII)[J"⟩ : MethodName) jdk_65_method_138_code 3 (some (.array .long)) :: ws) ({ frames := 2, cells := 1, slots := 2, locals := 34 } : Room)) (fun a_ U => a_ = #[(.ref g), (.int (0 : Int32)), (.int (2 : Int32))] ∧ Z.Warmed39 U.vm ∧ U.heap = h0) (fun _ _ _ _ _ => True) (fun _ U o U' => ∃ v L, o = .returned v ∧ Q_cr20 Z g GG h0 n0 F v U'.heap L ∧ FrameEnd U o U' L ({ frames := 2, cells := 1, slots := 2, locals := 34 } : Room).cells ({ frames := 2, cells := 1, slots := 2, locals := 34 } : Room).slots) := by
  refine MetFree.of_bodySF (plainFor_of_name pn_1) hisR ?_
  intro p e s m args below meth c s₁ Bd hml0 hP hK
  obtain ⟨rfl, hZ, hh⟩ := hP
  have hx := Bd.exec
  have hby := Bd.bytes
  have hlk : meth.locks = false := Bd.notSynchronized
  have hml : c.maxLocals = 3 := hml0
  have hown : s.vm.findClass "java/util/Arrays" = some m.cls := findClass_of_methodNamed Bd.named
  have hnm := (name_of_methodNamed Bd.named Bd.method).1
  have X0 : Stand p l e ({ frames := 2, cells := 1, slots := 2, locals := 34 } : Room) s m #[(.ref g), (.int (0 : Int32)), (.int (2 : Int32))] below meth c s₁ [] 0 0 := Stand.of_body Bd
  have e0 : s₁.heap = h0 := by rw [← hh, Bd.state]; rfl
  have N0 := Fr.nil n0
  show OGets p e below (OLeaves s (Q_cr20 Z g GG h0 n0 F ) ({ frames := 2, cells := 1, slots := 2, locals := 34 } : Room).cells ({ frames := 2, cells := 1, slots := 2, locals := 34 } : Room).slots) _
  refine OGets.enter (ef_cr20 m g (0 : Int32) (2 : Int32)) ?_
  show OGets p e below _ (s₁.setTop (mkF m 0 #[rv g, iv (0 : Int32), iv (2 : Int32)] []))
  refine OGets.step (fun _ => XS.iloadN X0.here hx rfl (hb hby dj65m138_0) rfl) ?_
  refine OGets.step (fun _ => XS.ifNo X0.here hx rfl (hb hby dj65m138_1) rfl ((if0 _ _).trans (teq (by decide : (0 : Int32) = (0 : Int32))).2)) ?_
  refine OGets.step (fun _ => XS.iloadN X0.here hx rfl (hb hby dj65m138_4) rfl) ?_
  refine OGets.step (fun _ => XS.aloadN X0.here hx rfl (hb hby dj65m138_5) rfl rfl) ?_
  obtain ⟨cl285, Ar285, S285⟩ := V0.arr 0 rfl
  have ln285 : cl285.slots.size.toInt32 = (32 : Int32) := by rw [own_len S285]; simp only [List.length_map, si_len, sj_len, List.length_replicate, hlG]; rfl
  refine OGets.step (U' := s₁.setTop (mkF m 7 #[rv g, iv (0 : Int32), iv (2 : Int32)] [(.int (32 : Int32)), (.int (2 : Int32))])) (fun t kt => ?_) ?_
  · refine X0.arraylength hx (by rw [e0]; exact Ar285.1) (State.isArrayOf_alike hZ.alike Ar285.2.1) (g := (mkF m 6 #[rv g, iv (0 : Int32), iv (2 : Int32)] [(.ref g), (.int (2 : Int32))])) rfl rfl (hb hby dj65m138_6) _ ?_
    rw [ln285]; exact kt
  refine OGets.step (fun _ => XS.icmpNo X0.here hx rfl (hb hby dj65m138_7) rfl (feq (by decide : ¬ ((2 : Int32) = (32 : Int32)))).1) ?_
  show OGets p e below _ (s₁.setTop (mkF m 10 #[rv g, iv (0 : Int32), iv (2 : Int32)] []))
  refine OGets.step (fun _ => XS.aloadN X0.here hx rfl (hb hby dj65m138_10) rfl rfl) ?_
  refine OGets.step (fun _ => XS.iloadN X0.here hx rfl (hb hby dj65m138_11) rfl) ?_
  refine OGets.step (fun _ => XS.iloadN X0.here hx rfl (hb hby dj65m138_12) rfl) ?_
  obtain ⟨_, _, ⟨T287, L287, k287, n287⟩, -, X287, ⟨Lc287, hQ287, l287, y287, z287⟩, st287⟩ := Jvm.LawKit.callS X0 hx (y := (⟨"java/util/Arrays", "copyOfRangeLong", "([JII)[J"⟩ : MethodName)) hown (mvT hZ (ow hw 56 rfl)) (mvT hZ (ow hw 57 rfl)) (mvT hZ (ow hw 38 rfl)) (mvT hZ (ow hw 58 rfl)) (by decide) (backOf (W := 0) (rm_crl20 l Z a0 hw [] g GG h0 n0 _ Z0 (by simp only [sj_len, List.length_replicate, hlG]) V0 O0) hZ (ow hw 58 rfl) (ow hw 38 rfl) (by decide) (by decide)) (g := (mkF m 13 #[rv g, iv (0 : Int32), iv (2 : Int32)] [(.int (2 : Int32)), (.int (0 : Int32)), (.ref g)])) rfl (by rw [hml]; rfl) (argsL := [(.ref g), (.int (0 : Int32)), (.int (2 : Int32))]) (rest := []) (lenOf pd_6 rfl) rfl (by show 2 * 0 + _ ≤ _; exact Nat.le_of_eq rfl) (hb hby dj65m138_13) (fun _ _ => ⟨rfl, e0, Nat.le_of_ble_eq_true rfl, Nat.le_of_ble_eq_true rfl⟩)
  dsimp only [Pt.U, Pt.locs, Pt.cells, Pt.slots] at X287 l287 y287 z287 st287 hQ287
  rw [l287, y287, z287] at X287
  obtain ⟨d287, rfl, N287q, V287, O287q⟩ := hQ287
  have N287 := Fr.app N0 N287q
  have V287v : OView Z n0 T287.heap (oB d287 [(gj GG (0 : Int32)), (gj GG (1 : Int32))] :: oB g GG :: F) := V287
  have Z287 : n0 ≤ T287.heap.size := V287v.big 0 rfl
  refine OGets.step st287 ?_
  refine OGets.retA X287 hx hlk (t := (.array .long)) Bd.returns rfl rfl rfl (hb hby dj65m138_16) (Nat.le_of_ble_eq_true rfl) (Nat.le_of_ble_eq_true rfl) ?_
  exact ⟨d287, rfl, N287, V287v, O287q⟩
theorem ef_ck21 (m : MethodId) (x0 : Int32) (x1 : Int32) : entryFrame m #[(.int x0), (.int x1)] 2 = mkF m 0 #[.val (.int x0), .val (.int x1)] [] := by first | (simp [entryFrame, mkF, argsToLocals, Value.category]; done) | rfl
def Q_ck21 (Z : State)  (h0 : Heap) (n0 : Nat) (v : Option Value) (h : Heap) (L : List Loc) : Prop := v = none ∧ L = [] ∧ h = h0
set_option maxRecDepth 65536 in
set_option maxHeartbeats 40000000 in
theorem rm_ck21 (l : Launch) (Z : State) (a0 : Array Value) (hw : ∀ d ∈ tables_1, d.before a0 Z = true) (ws : List Jvm.Cond)  (h0 : Heap) (n0 : Nat) (Z0 : n0 ≤ h0.size) :
    MetFree l (⟨"java/util/Arrays", "checkLength", "(II)V"⟩ : MethodName) (head1 (Jvm.Cond.code (⟨"java/util/Arrays", "checkLength", "(II)V"⟩ : MethodName) jdk_65_method_131_code 2 none :: ws) ({ frames := 0, cells := 0, slots := 0, locals := 0 } : Room)) (fun a_ U => a_ = #[(.int (2 : Int32)), (.int (4 : Int32))] ∧ Z.Warmed39 U.vm ∧ U.heap = h0) (fun _ _ _ _ _ => True) (fun _ U o U' => ∃ v L, o = .returned v ∧ Q_ck21 Z  h0 n0 v U'.heap L ∧ FrameEnd U o U' L ({ frames := 0, cells := 0, slots := 0, locals := 0 } : Room).cells ({ frames := 0, cells := 0, slots := 0, locals := 0 } : Room).slots) := by
  refine MetFree.of_bodySF (plainFor_of_name pn_1) hisR ?_
  intro p e s m args below meth c s₁ Bd hml0 hP hK
  obtain ⟨rfl, hZ, hh⟩ := hP
  have hx := Bd.exec
  have hby := Bd.bytes
  have hlk : meth.locks = false := Bd.notSynchronized
  have hml : c.maxLocals = 2 := hml0
  have hown : s.vm.findClass "java/util/Arrays" = some m.cls := findClass_of_methodNamed Bd.named
  have hnm := (name_of_methodNamed Bd.named Bd.method).1
  have X0 : Stand p l e ({ frames := 0, cells := 0, slots := 0, locals := 0 } : Room) s m #[(.int (2 : Int32)), (.int (4 : Int32))] below meth c s₁ [] 0 0 := Stand.of_body Bd
  have e0 : s₁.heap = h0 := by rw [← hh, Bd.state]; rfl
  have N0 := Fr.nil n0
  show OGets p e below (OLeaves s (Q_ck21 Z  h0 n0 ) ({ frames := 0, cells := 0, slots := 0, locals := 0 } : Room).cells ({ frames := 0, cells := 0, slots := 0, locals := 0 } : Room).slots) _
  refine OGets.enter (ef_ck21 m (2 : Int32) (4 : Int32)) ?_
  show OGets p e below _ (s₁.setTop (mkF m 0 #[iv (2 : Int32), iv (4 : Int32)] []))
  refine OGets.step (fun _ => XS.iloadN X0.here hx rfl (hb hby dj65m131_0) rfl) ?_
  refine OGets.step (fun _ => XS.iloadN X0.here hx rfl (hb hby dj65m131_1) rfl) ?_
  refine OGets.step (fun _ => XS.icmpYes X0.here hx rfl (pc0 := 2) (pc' := 37) rfl (hb hby dj65m131_2) rfl (flt (by decide : ¬ ((4 : Int32) < (2 : Int32)))).2.1 (by decide) (by decide)) ?_
  refine OGets.retV X0 hx hlk Bd.returns (hb hby dj65m131_37) (Nat.le_of_ble_eq_true rfl) (Nat.le_of_ble_eq_true rfl) ?_
  exact ⟨rfl, rfl, e0⟩
theorem ef_crl21 (m : MethodId) (x0 : Addr) (x1 : Int32) (x2 : Int32) : entryFrame m #[(.ref x0), (.int x1), (.int x2)] 5 = mkF m 0 #[.val (.ref x0), .val (.int x1), .val (.int x2), .unset, .unset] [] := by first | (simp [entryFrame, mkF, argsToLocals, Value.category]; done) | rfl
def Q_crl21 (Z : State) (g : Addr) (GG : List Int64) (h0 : Heap) (n0 : Nat) (F : List (Addr × OObj)) (v : Option Value) (h : Heap) (L : List Loc) : Prop := ∃ d : Addr, v = some (.ref d) ∧ Fr n0 L ∧ OView Z n0 h (oB d [(gj GG (2 : Int32)), (gj GG (3 : Int32))] :: oB g GG :: F) ∧ Old Z n0 h
set_option maxRecDepth 65536 in
set_option maxHeartbeats 40000000 in
theorem rm_crl21 (l : Launch) (Z : State) (a0 : Array Value) (hw : ∀ d ∈ tables_1, d.before a0 Z = true) (ws : List Jvm.Cond) (g : Addr) (GG : List Int64) (h0 : Heap) (n0 : Nat) (F : List (Addr × OObj)) (Z0 : n0 ≤ h0.size) (hlG : GG.length = 32) (V0 : OView Z n0 h0 (oB g GG :: F)) (O0 : Old Z n0 h0) :
    MetFree l (⟨"java/util/Arrays", "copyOfRangeLong", "([JII)[J"⟩ : MethodName) (head1 (Jvm.Cond.code (⟨"java/util/Arrays", "copyOfRangeLong", "([JII)[J"⟩ : MethodName) jdk_65_method_139_code 5 (some (.array .long)) :: ws) ({ frames := 1, cells := 1, slots := 2, locals := 18 } : Room)) (fun a_ U => a_ = #[(.ref g), (.int (2 : Int32)), (.int (4 : Int32))] ∧ Z.Warmed39 U.vm ∧ U.heap = h0) (fun _ _ _ _ _ => True) (fun _ U o U' => ∃ v L, o = .returned v ∧ Q_crl21 Z g GG h0 n0 F v U'.heap L ∧ FrameEnd U o U' L ({ frames := 1, cells := 1, slots := 2, locals := 18 } : Room).cells ({ frames := 1, cells := 1, slots := 2, locals := 18 } : Room).slots) := by
  refine MetFree.of_bodySF (plainFor_of_name pn_1) hisR ?_
  intro p e s m args below meth c s₁ Bd hml0 hP hK
  obtain ⟨rfl, hZ, hh⟩ := hP
  have hx := Bd.exec
  have hby := Bd.bytes
  have hlk : meth.locks = false := Bd.notSynchronized
  have hml : c.maxLocals = 5 := hml0
  have hown : s.vm.findClass "java/util/Arrays" = some m.cls := findClass_of_methodNamed Bd.named
  have hnm := (name_of_methodNamed Bd.named Bd.method).1
  have X0 : Stand p l e ({ frames := 1, cells := 1, slots := 2, locals := 18 } : Room) s m #[(.ref g), (.int (2 : Int32)), (.int (4 : Int32))] below meth c s₁ [] 0 0 := Stand.of_body Bd
  have e0 : s₁.heap = h0 := by rw [← hh, Bd.state]; rfl
  have N0 := Fr.nil n0
  show OGets p e below (OLeaves s (Q_crl21 Z g GG h0 n0 F ) ({ frames := 1, cells := 1, slots := 2, locals := 18 } : Room).cells ({ frames := 1, cells := 1, slots := 2, locals := 18 } : Room).slots) _
  refine OGets.enter (ef_crl21 m g (2 : Int32) (4 : Int32)) ?_
  show OGets p e below _ (s₁.setTop (mkF m 0 #[rv g, iv (2 : Int32), iv (4 : Int32), uv, uv] []))
  refine OGets.step (fun _ => XS.iloadN X0.here hx rfl (hb hby dj65m139_0) rfl) ?_
  refine OGets.step (fun _ => XS.iloadN X0.here hx rfl (hb hby dj65m139_1) rfl) ?_
  obtain ⟨_, _, ⟨T289, L289, k289, n289⟩, -, X289, ⟨Lc289, hQ289, l289, y289, z289⟩, st289⟩ := Jvm.LawKit.callS X0 hx (y := (⟨"java/util/Arrays", "checkLength", "(II)V"⟩ : MethodName)) hown (mvT hZ (ow hw 59 rfl)) (mvT hZ (ow hw 60 rfl)) (mvT hZ (ow hw 38 rfl)) (mvT hZ (ow hw 61 rfl)) (by decide) (backOf (W := 0) (rm_ck21 l Z a0 hw []  h0 n0  Z0 ) hZ (ow hw 61 rfl) (ow hw 38 rfl) (by decide) (by decide)) (g := (mkF m 2 #[rv g, iv (2 : Int32), iv (4 : Int32), uv, uv] [(.int (4 : Int32)), (.int (2 : Int32))])) rfl (by rw [hml]; rfl) (argsL := [(.int (2 : Int32)), (.int (4 : Int32))]) (rest := []) (lenOf pd_4 rfl) rfl (by show 2 * 0 + _ ≤ _; exact Nat.le_of_eq rfl) (hb hby dj65m139_2) (fun _ _ => ⟨rfl, e0, Nat.le_of_ble_eq_true rfl, Nat.le_of_ble_eq_true rfl⟩)
  dsimp only [Pt.U, Pt.locs, Pt.cells, Pt.slots] at X289 l289 y289 z289 st289 hQ289
  rw [l289, y289, z289] at X289
  obtain ⟨rfl, rfl, e289⟩ := hQ289
  have N289 := Fr.app N0 (Fr.nil n0)
  refine OGets.step st289 ?_
  refine OGets.step (fun _ => XS.iloadN X289.here hx rfl (hb hby dj65m139_5) rfl) ?_
  refine OGets.step (fun _ => XS.iloadN X289.here hx rfl (hb hby dj65m139_6) rfl) ?_
  refine OGets.step (fun _ => XS.isub X289.here hx rfl (hb hby dj65m139_7) rfl) ?_
  show OGets p e below _ (T289.setTop (mkF m 8 #[rv g, iv (2 : Int32), iv (4 : Int32), uv, uv] [(.int (2 : Int32))]))
  refine OGets.step (fun _ => XS.istoreN X289.here hx rfl (hb hby dj65m139_8) rfl (l' := #[rv g, iv (2 : Int32), iv (4 : Int32), iv (2 : Int32), uv]) rfl) ?_
  refine OGets.step (fun _ => XS.iloadN X289.here hx rfl (hb hby dj65m139_9) rfl) ?_
  obtain ⟨T290, h290, k290, X290, e290, E290, A290, Ex290, st290⟩ := newPE X289 hx hZ (ow hw 0 rfl) e289 (g := (mkF m 10 #[rv g, iv (2 : Int32), iv (4 : Int32), iv (2 : Int32), uv] [(.int (2 : Int32))])) rfl (hb hby dj65m139_10) rfl (by decide) (cap := 2) (by decide) (by decide) (by decide) (by decide) (ad := "[J") (by decide +kernel)
  have V290' := V0.newArr Z0 E290 A290 2 rfl (fun _ => Ex290)
  have Z290 : n0 ≤ h290.size := Nat.le_trans Z0 E290.1
  obtain ⟨b290, g290⟩ : ∃ z, z = h0.size := ⟨_, rfl⟩
  rw [← g290] at V290' st290
  have V290 : OView Z n0 h290 (oB b290 [(0 : Int64), (0 : Int64)] :: oB g GG :: F) := V290'
  have O290 := O0.ext E290
  refine OGets.step st290 ?_
  refine OGets.step (fun _ => XS.astore X290.here hx rfl (hb hby dj65m139_12) rfl rfl (l' := #[rv g, iv (2 : Int32), iv (4 : Int32), iv (2 : Int32), rv b290]) rfl) ?_
  refine OGets.step (fun _ => XS.aloadN X290.here hx rfl (hb hby dj65m139_14) rfl rfl) ?_
  refine OGets.step (fun _ => XS.iloadN X290.here hx rfl (hb hby dj65m139_15) rfl) ?_
  refine OGets.step (fun _ => XS.aload X290.here hx rfl (hb hby dj65m139_16) rfl rfl) ?_
  refine OGets.step (fun _ => XS.iconst X290.here hx rfl (hb hby dj65m139_18)) ?_
  show OGets p e below _ (T290.setTop (mkF m 19 #[rv g, iv (2 : Int32), iv (4 : Int32), iv (2 : Int32), rv b290] [(.int (0 : Int32)), (.ref b290), (.int (2 : Int32)), (.ref g)]))
  refine OGets.step (fun _ => XS.aloadN X290.here hx rfl (hb hby dj65m139_19) rfl rfl) ?_
  obtain ⟨cl291, Ar291, S291⟩ := V290.arr 1 rfl
  have ln291 : cl291.slots.size.toInt32 = (32 : Int32) := by rw [own_len S291]; simp only [List.length_map, si_len, sj_len, List.length_replicate, hlG]; rfl
  refine OGets.step (U' := T290.setTop (mkF m 21 #[rv g, iv (2 : Int32), iv (4 : Int32), iv (2 : Int32), rv b290] [(.int (32 : Int32)), (.int (0 : Int32)), (.ref b290), (.int (2 : Int32)), (.ref g)])) (fun t kt => ?_) ?_
  · refine X290.arraylength hx (by rw [e290]; exact Ar291.1) (State.isArrayOf_alike hZ.alike Ar291.2.1) (g := (mkF m 20 #[rv g, iv (2 : Int32), iv (4 : Int32), iv (2 : Int32), rv b290] [(.ref g), (.int (0 : Int32)), (.ref b290), (.int (2 : Int32)), (.ref g)])) rfl rfl (hb hby dj65m139_20) _ ?_
    rw [ln291]; exact kt
  refine OGets.step (fun _ => XS.iloadN X290.here hx rfl (hb hby dj65m139_21) rfl) ?_
  refine OGets.step (fun _ => XS.isub X290.here hx rfl (hb hby dj65m139_22) rfl) ?_
  show OGets p e below _ (T290.setTop (mkF m 23 #[rv g, iv (2 : Int32), iv (4 : Int32), iv (2 : Int32), rv b290] [(.int (30 : Int32)), (.int (0 : Int32)), (.ref b290), (.int (2 : Int32)), (.ref g)]))
  refine OGets.step (fun _ => XS.iloadN X290.here hx rfl (hb hby dj65m139_23) rfl) ?_
  obtain ⟨_, _, ⟨T292, L292, k292, n292⟩, -, X292, ⟨Lc292, hQ292, l292, y292, z292⟩, st292⟩ := Jvm.LawKit.callS X290 hx (y := (⟨"java/lang/Math", "min", "(II)I"⟩ : MethodName)) hown (mvT hZ (ow hw 62 rfl)) (mvT hZ (ow hw 63 rfl)) (mvT hZ (ow hw 64 rfl)) (mvT hZ (ow hw 65 rfl)) (by decide) (backOf (W := 4) (rm_mn l Z a0 hw [] (30 : Int32) (2 : Int32) h290 n0  Z290 ) hZ (ow hw 65 rfl) (ow hw 64 rfl) (by decide) (by decide)) (g := (mkF m 24 #[rv g, iv (2 : Int32), iv (4 : Int32), iv (2 : Int32), rv b290] [(.int (2 : Int32)), (.int (30 : Int32)), (.int (0 : Int32)), (.ref b290), (.int (2 : Int32)), (.ref g)])) rfl (by rw [hml]; rfl) (argsL := [(.int (30 : Int32)), (.int (2 : Int32))]) (rest := [(.int (0 : Int32)), (.ref b290), (.int (2 : Int32)), (.ref g)]) (lenOf pd_5 rfl) rfl (by show 2 * 0 + _ ≤ _; exact Nat.le_of_eq rfl) (hb hby dj65m139_24) (fun _ _ => ⟨rfl, e290, Nat.le_of_ble_eq_true rfl, Nat.le_of_ble_eq_true rfl⟩)
  dsimp only [Pt.U, Pt.locs, Pt.cells, Pt.slots] at X292 l292 y292 z292 st292 hQ292
  rw [l292, y292, z292] at X292
  obtain ⟨rfl, rfl, e292⟩ := hQ292
  have N292 := Fr.app N289 (Fr.nil n0)
  rw [show f_mn (30 : Int32) (2 : Int32) = (2 : Int32) from by decide] at st292
  refine OGets.step st292 ?_
  obtain ⟨cs293, As293, Ss293⟩ := V290.arr 1 rfl
  obtain ⟨cd293, Ad293, Sd293⟩ := V290.arr 0 rfl
  obtain ⟨T293, h293, L293, X293, e293, N293, K293, B293, st293⟩ := cpA X292 hx hZ hown (ow hw 66 rfl) (ow hw 69 rfl) (ow hw 67 rfl) (ow hw 68 rfl) e292 (sp := (2 : Int32)) (dp := (0 : Int32)) (nn := (2 : Int32)) (us := [.long (gj GG (2 : Int32)), .long (gj GG (3 : Int32))]) (own_arv (L := GG) As293 Ss293 (32 : Int32) (by simp only [List.length_map, si_len, sj_len, List.length_replicate, hlG]; rfl)) (own_arv (L := [(0 : Int64), (0 : Int64)]) Ad293 Sd293 (2 : Int32) rfl) (Or.inl ⟨rfl, rfl⟩) (by decide) (by decide) (by decide) (by decide) (by decide) (own_us2 _ _ _ rfl) (by decide) N292 (V290.old 0 rfl) (g := (mkF m 27 #[rv g, iv (2 : Int32), iv (4 : Int32), iv (2 : Int32), rv b290] [(.int (2 : Int32)), (.int (0 : Int32)), (.ref b290), (.int (2 : Int32)), (.ref g)])) rfl (by rw [hml]; rfl) rfl (hb hby dj65m139_27) (by decide) (W := 0) (by show 2 * 0 + _ ≤ _; exact Nat.le_of_eq rfl) (by decide)
  have V293 : OView Z n0 h293 (oB b290 [(gj GG (2 : Int32)), (gj GG (3 : Int32))] :: oB g GG :: F) := V290.copied 0 rfl K293 B293 rfl
  have Z293 : n0 ≤ h293.size := Nat.le_trans Z290 K293.1
  have O293 := O290.keep K293 (allS (V290.old 0 rfl) all0)
  refine OGets.step st293 ?_
  refine OGets.step (fun _ => XS.aload X293.here hx rfl (hb hby dj65m139_30) rfl rfl) ?_
  refine OGets.retA X293 hx hlk (t := (.array .long)) Bd.returns rfl rfl rfl (hb hby dj65m139_32) (Nat.le_of_ble_eq_true rfl) (Nat.le_of_ble_eq_true rfl) ?_
  rw [e293]
  exact ⟨b290, rfl, N293, V293, O293⟩
theorem ef_cr21 (m : MethodId) (x0 : Addr) (x1 : Int32) (x2 : Int32) : entryFrame m #[(.ref x0), (.int x1), (.int x2)] 3 = mkF m 0 #[.val (.ref x0), .val (.int x1), .val (.int x2)] [] := by first | (simp [entryFrame, mkF, argsToLocals, Value.category]; done) | rfl
def Q_cr21 (Z : State) (g : Addr) (GG : List Int64) (h0 : Heap) (n0 : Nat) (F : List (Addr × OObj)) (v : Option Value) (h : Heap) (L : List Loc) : Prop := ∃ d : Addr, v = some (.ref d) ∧ Fr n0 L ∧ OView Z n0 h (oB d [(gj GG (2 : Int32)), (gj GG (3 : Int32))] :: oB g GG :: F) ∧ Old Z n0 h
set_option maxRecDepth 65536 in
set_option maxHeartbeats 40000000 in
theorem rm_cr21 (l : Launch) (Z : State) (a0 : Array Value) (hw : ∀ d ∈ tables_1, d.before a0 Z = true) (ws : List Jvm.Cond) (g : Addr) (GG : List Int64) (h0 : Heap) (n0 : Nat) (F : List (Addr × OObj)) (Z0 : n0 ≤ h0.size) (hlG : GG.length = 32) (V0 : OView Z n0 h0 (oB g GG :: F)) (O0 : Old Z n0 h0) :
    MetFree l (⟨"java/util/Arrays", "copyOfRange", "([JII)[J"⟩ : MethodName) (head1 (Jvm.Cond.code (⟨"java/util/Arrays", "copyOfRange", "([JII)[J"⟩ : MethodName) jdk_65_method_138_code 3 (some (.array .long)) :: ws) ({ frames := 2, cells := 1, slots := 2, locals := 34 } : Room)) (fun a_ U => a_ = #[(.ref g), (.int (2 : Int32)), (.int (4 : Int32))] ∧ Z.Warmed39 U.vm ∧ U.heap = h0) (fun _ _ _ _ _ => True) (fun _ U o U' => ∃ v L, o = .returned v ∧ Q_cr21 Z g GG h0 n0 F v U'.heap L ∧ FrameEnd U o U' L ({ frames := 2, cells := 1, slots := 2, locals := 34 } : Room).cells ({ frames := 2, cells := 1, slots := 2, locals := 34 } : Room).slots) := by
  refine MetFree.of_bodySF (plainFor_of_name pn_1) hisR ?_
  intro p e s m args below meth c s₁ Bd hml0 hP hK
  obtain ⟨rfl, hZ, hh⟩ := hP
  have hx := Bd.exec
  have hby := Bd.bytes
  have hlk : meth.locks = false := Bd.notSynchronized
  have hml : c.maxLocals = 3 := hml0
  have hown : s.vm.findClass "java/util/Arrays" = some m.cls := findClass_of_methodNamed Bd.named
  have hnm := (name_of_methodNamed Bd.named Bd.method).1
  have X0 : Stand p l e ({ frames := 2, cells := 1, slots := 2, locals := 34 } : Room) s m #[(.ref g), (.int (2 : Int32)), (.int (4 : Int32))] below meth c s₁ [] 0 0 := Stand.of_body Bd
  have e0 : s₁.heap = h0 := by rw [← hh, Bd.state]; rfl
  have N0 := Fr.nil n0
  show OGets p e below (OLeaves s (Q_cr21 Z g GG h0 n0 F ) ({ frames := 2, cells := 1, slots := 2, locals := 34 } : Room).cells ({ frames := 2, cells := 1, slots := 2, locals := 34 } : Room).slots) _
  refine OGets.enter (ef_cr21 m g (2 : Int32) (4 : Int32)) ?_
  show OGets p e below _ (s₁.setTop (mkF m 0 #[rv g, iv (2 : Int32), iv (4 : Int32)] []))
  refine OGets.step (fun _ => XS.iloadN X0.here hx rfl (hb hby dj65m138_0) rfl) ?_
  refine OGets.step (fun _ => XS.ifYes X0.here hx rfl (pc0 := 1) (pc' := 10) rfl (hb hby dj65m138_1) rfl ((if0 _ _).trans (feq (by decide : ¬ ((2 : Int32) = (0 : Int32)))).2) (by decide) (by decide)) ?_
  refine OGets.step (fun _ => XS.aloadN X0.here hx rfl (hb hby dj65m138_10) rfl rfl) ?_
  refine OGets.step (fun _ => XS.iloadN X0.here hx rfl (hb hby dj65m138_11) rfl) ?_
  refine OGets.step (fun _ => XS.iloadN X0.here hx rfl (hb hby dj65m138_12) rfl) ?_
  obtain ⟨_, _, ⟨T295, L295, k295, n295⟩, -, X295, ⟨Lc295, hQ295, l295, y295, z295⟩, st295⟩ := Jvm.LawKit.callS X0 hx (y := (⟨"java/util/Arrays", "copyOfRangeLong", "([JII)[J"⟩ : MethodName)) hown (mvT hZ (ow hw 56 rfl)) (mvT hZ (ow hw 57 rfl)) (mvT hZ (ow hw 38 rfl)) (mvT hZ (ow hw 58 rfl)) (by decide) (backOf (W := 0) (rm_crl21 l Z a0 hw [] g GG h0 n0 _ Z0 (by simp only [sj_len, List.length_replicate, hlG]) V0 O0) hZ (ow hw 58 rfl) (ow hw 38 rfl) (by decide) (by decide)) (g := (mkF m 13 #[rv g, iv (2 : Int32), iv (4 : Int32)] [(.int (4 : Int32)), (.int (2 : Int32)), (.ref g)])) rfl (by rw [hml]; rfl) (argsL := [(.ref g), (.int (2 : Int32)), (.int (4 : Int32))]) (rest := []) (lenOf pd_6 rfl) rfl (by show 2 * 0 + _ ≤ _; exact Nat.le_of_eq rfl) (hb hby dj65m138_13) (fun _ _ => ⟨rfl, e0, Nat.le_of_ble_eq_true rfl, Nat.le_of_ble_eq_true rfl⟩)
  dsimp only [Pt.U, Pt.locs, Pt.cells, Pt.slots] at X295 l295 y295 z295 st295 hQ295
  rw [l295, y295, z295] at X295
  obtain ⟨d295, rfl, N295q, V295, O295q⟩ := hQ295
  have N295 := Fr.app N0 N295q
  have V295v : OView Z n0 T295.heap (oB d295 [(gj GG (2 : Int32)), (gj GG (3 : Int32))] :: oB g GG :: F) := V295
  have Z295 : n0 ≤ T295.heap.size := V295v.big 0 rfl
  refine OGets.step st295 ?_
  refine OGets.retA X295 hx hlk (t := (.array .long)) Bd.returns rfl rfl rfl (hb hby dj65m138_16) (Nat.le_of_ble_eq_true rfl) (Nat.le_of_ble_eq_true rfl) ?_
  exact ⟨d295, rfl, N295, V295v, O295q⟩
theorem dj65m124_0 : decode jdk_65_method_124_code 0 = .ok (.iload_n 1, 1) := by decide +kernel
theorem dj65m124_1 : decode jdk_65_method_124_code 1 = .ok (.aload_n 0, 1) := by decide +kernel
theorem dj65m124_2 : decode jdk_65_method_124_code 2 = .ok (.arraylength, 1) := by decide +kernel
theorem dj65m124_3 : decode jdk_65_method_124_code 3 = .ok (.if_icmp .ne 11, 3) := by decide +kernel
theorem dj65m124_6 : decode jdk_65_method_124_code 6 = .ok (.aload_n 0, 1) := by decide +kernel
theorem dj65m124_7 : decode jdk_65_method_124_code 7 = .ok (.invokevirtual 319, 3) := by decide +kernel
theorem dj65m124_10 : decode jdk_65_method_124_code 10 = .ok (.checkcast 320, 3) := by decide +kernel
theorem dj65m124_13 : decode jdk_65_method_124_code 13 = .ok (.areturn, 1) := by decide +kernel
theorem ef_co00 (m : MethodId) (x0 : Addr) (x1 : Int32) : entryFrame m #[(.ref x0), (.int x1)] 3 = mkF m 0 #[.val (.ref x0), .val (.int x1), .unset] [] := by first | (simp [entryFrame, mkF, argsToLocals, Value.category]; done) | rfl
def Q_co00 (Z : State) (d : Addr) (h0 : Heap) (n0 : Nat) (F : List (Addr × OObj)) (v : Option Value) (h : Heap) (L : List Loc) : Prop := ∃ e : Addr, v = some (.ref e) ∧ Fr n0 L ∧ OView Z n0 h (oB e [] :: oB d [] :: F) ∧ Old Z n0 h
set_option maxRecDepth 65536 in
set_option maxHeartbeats 40000000 in
theorem rm_co00 (l : Launch) (Z : State) (a0 : Array Value) (hw : ∀ d ∈ tables_1, d.before a0 Z = true) (ws : List Jvm.Cond) (d : Addr) (h0 : Heap) (n0 : Nat) (F : List (Addr × OObj)) (Z0 : n0 ≤ h0.size) (V0 : OView Z n0 h0 (oB d [] :: F)) (O0 : Old Z n0 h0) :
    MetFree l (⟨"java/util/Arrays", "copyOf", "([JI)[J"⟩ : MethodName) (head1 (Jvm.Cond.code (⟨"java/util/Arrays", "copyOf", "([JI)[J"⟩ : MethodName) jdk_65_method_124_code 3 (some (.array .long)) :: ws) ({ frames := 1, cells := 1, slots := 0, locals := 14 } : Room)) (fun a_ U => a_ = #[(.ref d), (.int (0 : Int32))] ∧ Z.Warmed39 U.vm ∧ U.heap = h0) (fun _ _ _ _ _ => True) (fun _ U o U' => ∃ v L, o = .returned v ∧ Q_co00 Z d h0 n0 F v U'.heap L ∧ FrameEnd U o U' L ({ frames := 1, cells := 1, slots := 0, locals := 14 } : Room).cells ({ frames := 1, cells := 1, slots := 0, locals := 14 } : Room).slots) := by
  refine MetFree.of_bodySF (plainFor_of_name pn_1) hisR ?_
  intro p e s m args below meth c s₁ Bd hml0 hP hK
  obtain ⟨rfl, hZ, hh⟩ := hP
  have hx := Bd.exec
  have hby := Bd.bytes
  have hlk : meth.locks = false := Bd.notSynchronized
  have hml : c.maxLocals = 3 := hml0
  have hown : s.vm.findClass "java/util/Arrays" = some m.cls := findClass_of_methodNamed Bd.named
  have hnm := (name_of_methodNamed Bd.named Bd.method).1
  have X0 : Stand p l e ({ frames := 1, cells := 1, slots := 0, locals := 14 } : Room) s m #[(.ref d), (.int (0 : Int32))] below meth c s₁ [] 0 0 := Stand.of_body Bd
  have e0 : s₁.heap = h0 := by rw [← hh, Bd.state]; rfl
  have N0 := Fr.nil n0
  show OGets p e below (OLeaves s (Q_co00 Z d h0 n0 F ) ({ frames := 1, cells := 1, slots := 0, locals := 14 } : Room).cells ({ frames := 1, cells := 1, slots := 0, locals := 14 } : Room).slots) _
  refine OGets.enter (ef_co00 m d (0 : Int32)) ?_
  show OGets p e below _ (s₁.setTop (mkF m 0 #[rv d, iv (0 : Int32), uv] []))
  refine OGets.step (fun _ => XS.iloadN X0.here hx rfl (hb hby dj65m124_0) rfl) ?_
  refine OGets.step (fun _ => XS.aloadN X0.here hx rfl (hb hby dj65m124_1) rfl rfl) ?_
  obtain ⟨cl296, Ar296, S296⟩ := V0.arr 0 rfl
  have ln296 : cl296.slots.size.toInt32 = (0 : Int32) := by rw [own_len S296]; rfl
  refine OGets.step (U' := s₁.setTop (mkF m 3 #[rv d, iv (0 : Int32), uv] [(.int (0 : Int32)), (.int (0 : Int32))])) (fun t kt => ?_) ?_
  · refine X0.arraylength hx (by rw [e0]; exact Ar296.1) (State.isArrayOf_alike hZ.alike Ar296.2.1) (g := (mkF m 2 #[rv d, iv (0 : Int32), uv] [(.ref d), (.int (0 : Int32))])) rfl rfl (hb hby dj65m124_2) _ ?_
    rw [ln296]; exact kt
  refine OGets.step (fun _ => XS.icmpNo X0.here hx rfl (hb hby dj65m124_3) rfl (teq (by decide : (0 : Int32) = (0 : Int32))).2) ?_
  refine OGets.step (fun _ => XS.aloadN X0.here hx rfl (hb hby dj65m124_6) rfl rfl) ?_
  obtain ⟨cl298, Ar298, S298⟩ := V0.arr 0 rfl
  obtain ⟨T298, h298, X298, e298, E298, A298, Ex298, st298⟩ := cloneA X0 hx hZ hown (ad := "[J") (ow hw 79 rfl) (ow hw 80 rfl) (ow hw 84 rfl) (ow hw 82 rfl) (ow hw 83 rfl) (ow hw 85 rfl) e0 Ar298 (V0.exj 0 rfl) (own_fit (L := []) Ar298 S298) (g := (mkF m 7 #[rv d, iv (0 : Int32), uv] [(.ref d)])) rfl (by rw [hml]; rfl) rfl (hb hby dj65m124_7) (by decide) (W := 0) (by show 2 * 0 + _ ≤ _; exact Nat.le_of_eq rfl) (by decide) (cap := 0) (by rw [own_len S298]; exact Nat.le_of_eq rfl) (by decide) (by decide)
  have V298' := V0.newClone Z0 E298 A298 Ex298 S298
  have Z298 : n0 ≤ h298.size := Nat.le_trans Z0 E298.1
  obtain ⟨b298, g298⟩ : ∃ z, z = h0.size := ⟨_, rfl⟩
  rw [← g298] at V298' st298
  have V298 : OView Z n0 h298 (oB b298 [] :: oB d [] :: F) := V298'
  have O298 := O0.ext E298
  refine OGets.step st298 ?_
  obtain ⟨T299, X299, e299, st299⟩ := castY X298 hx hZ hown (ow hw 86 rfl) e298 (Ins.self (V298.exj 0 rfl)) (g := (mkF m 10 #[rv d, iv (0 : Int32), uv] [(.ref b298)])) rfl rfl (hb hby dj65m124_10)
  refine OGets.step st299 ?_
  refine OGets.retA X299 hx hlk (t := (.array .long)) Bd.returns rfl rfl rfl (hb hby dj65m124_13) (Nat.le_of_ble_eq_true rfl) (Nat.le_of_ble_eq_true rfl) ?_
  rw [e299]
  exact ⟨b298, rfl, N0, V298, O298⟩
theorem dj65m124_14 : decode jdk_65_method_124_code 14 = .ok (.iload_n 1, 1) := by decide +kernel
theorem dj65m124_15 : decode jdk_65_method_124_code 15 = .ok (.newarray .long, 2) := by decide +kernel
theorem dj65m124_17 : decode jdk_65_method_124_code 17 = .ok (.astore_n 2, 1) := by decide +kernel
theorem dj65m124_18 : decode jdk_65_method_124_code 18 = .ok (.aload_n 0, 1) := by decide +kernel
theorem dj65m124_19 : decode jdk_65_method_124_code 19 = .ok (.iconst 0, 1) := by decide +kernel
theorem dj65m124_20 : decode jdk_65_method_124_code 20 = .ok (.aload_n 2, 1) := by decide +kernel
theorem dj65m124_21 : decode jdk_65_method_124_code 21 = .ok (.iconst 0, 1) := by decide +kernel
theorem dj65m124_22 : decode jdk_65_method_124_code 22 = .ok (.aload_n 0, 1) := by decide +kernel
theorem dj65m124_23 : decode jdk_65_method_124_code 23 = .ok (.arraylength, 1) := by decide +kernel
theorem dj65m124_24 : decode jdk_65_method_124_code 24 = .ok (.iload_n 1, 1) := by decide +kernel
theorem dj65m124_25 : decode jdk_65_method_124_code 25 = .ok (.invokestatic 304, 3) := by decide +kernel
theorem dj65m124_28 : decode jdk_65_method_124_code 28 = .ok (.invokestatic 150, 3) := by decide +kernel
theorem dj65m124_31 : decode jdk_65_method_124_code 31 = .ok (.aload_n 2, 1) := by decide +kernel
theorem dj65m124_32 : decode jdk_65_method_124_code 32 = .ok (.areturn, 1) := by decide +kernel
theorem ef_co10 (m : MethodId) (x0 : Addr) (x1 : Int32) : entryFrame m #[(.ref x0), (.int x1)] 3 = mkF m 0 #[.val (.ref x0), .val (.int x1), .unset] [] := by first | (simp [entryFrame, mkF, argsToLocals, Value.category]; done) | rfl
def Q_co10 (Z : State) (d : Addr) (x0 : Int64) (h0 : Heap) (n0 : Nat) (F : List (Addr × OObj)) (v : Option Value) (h : Heap) (L : List Loc) : Prop := ∃ e : Addr, v = some (.ref e) ∧ Fr n0 L ∧ OView Z n0 h (oB e [] :: oB d [x0] :: F) ∧ Old Z n0 h
set_option maxRecDepth 65536 in
set_option maxHeartbeats 40000000 in
theorem rm_co10 (l : Launch) (Z : State) (a0 : Array Value) (hw : ∀ d ∈ tables_1, d.before a0 Z = true) (ws : List Jvm.Cond) (d : Addr) (x0 : Int64) (h0 : Heap) (n0 : Nat) (F : List (Addr × OObj)) (Z0 : n0 ≤ h0.size) (V0 : OView Z n0 h0 (oB d [x0] :: F)) (O0 : Old Z n0 h0) :
    MetFree l (⟨"java/util/Arrays", "copyOf", "([JI)[J"⟩ : MethodName) (head1 (Jvm.Cond.code (⟨"java/util/Arrays", "copyOf", "([JI)[J"⟩ : MethodName) jdk_65_method_124_code 3 (some (.array .long)) :: ws) ({ frames := 1, cells := 1, slots := 0, locals := 18 } : Room)) (fun a_ U => a_ = #[(.ref d), (.int (0 : Int32))] ∧ Z.Warmed39 U.vm ∧ U.heap = h0) (fun _ _ _ _ _ => True) (fun _ U o U' => ∃ v L, o = .returned v ∧ Q_co10 Z d x0 h0 n0 F v U'.heap L ∧ FrameEnd U o U' L ({ frames := 1, cells := 1, slots := 0, locals := 18 } : Room).cells ({ frames := 1, cells := 1, slots := 0, locals := 18 } : Room).slots) := by
  refine MetFree.of_bodySF (plainFor_of_name pn_1) hisR ?_
  intro p e s m args below meth c s₁ Bd hml0 hP hK
  obtain ⟨rfl, hZ, hh⟩ := hP
  have hx := Bd.exec
  have hby := Bd.bytes
  have hlk : meth.locks = false := Bd.notSynchronized
  have hml : c.maxLocals = 3 := hml0
  have hown : s.vm.findClass "java/util/Arrays" = some m.cls := findClass_of_methodNamed Bd.named
  have hnm := (name_of_methodNamed Bd.named Bd.method).1
  have X0 : Stand p l e ({ frames := 1, cells := 1, slots := 0, locals := 18 } : Room) s m #[(.ref d), (.int (0 : Int32))] below meth c s₁ [] 0 0 := Stand.of_body Bd
  have e0 : s₁.heap = h0 := by rw [← hh, Bd.state]; rfl
  have N0 := Fr.nil n0
  show OGets p e below (OLeaves s (Q_co10 Z d x0 h0 n0 F ) ({ frames := 1, cells := 1, slots := 0, locals := 18 } : Room).cells ({ frames := 1, cells := 1, slots := 0, locals := 18 } : Room).slots) _
  refine OGets.enter (ef_co10 m d (0 : Int32)) ?_
  show OGets p e below _ (s₁.setTop (mkF m 0 #[rv d, iv (0 : Int32), uv] []))
  refine OGets.step (fun _ => XS.iloadN X0.here hx rfl (hb hby dj65m124_0) rfl) ?_
  refine OGets.step (fun _ => XS.aloadN X0.here hx rfl (hb hby dj65m124_1) rfl rfl) ?_
  obtain ⟨cl300, Ar300, S300⟩ := V0.arr 0 rfl
  have ln300 : cl300.slots.size.toInt32 = (1 : Int32) := by rw [own_len S300]; rfl
  refine OGets.step (U' := s₁.setTop (mkF m 3 #[rv d, iv (0 : Int32), uv] [(.int (1 : Int32)), (.int (0 : Int32))])) (fun t kt => ?_) ?_
  · refine X0.arraylength hx (by rw [e0]; exact Ar300.1) (State.isArrayOf_alike hZ.alike Ar300.2.1) (g := (mkF m 2 #[rv d, iv (0 : Int32), uv] [(.ref d), (.int (0 : Int32))])) rfl rfl (hb hby dj65m124_2) _ ?_
    rw [ln300]; exact kt
  refine OGets.step (fun _ => XS.icmpYes X0.here hx rfl (pc0 := 3) (pc' := 14) rfl (hb hby dj65m124_3) rfl (feq (by decide : ¬ ((0 : Int32) = (1 : Int32)))).2 (by decide) (by decide)) ?_
  refine OGets.step (fun _ => XS.iloadN X0.here hx rfl (hb hby dj65m124_14) rfl) ?_
  obtain ⟨T302, h302, k302, X302, e302, E302, A302, Ex302, st302⟩ := newPE X0 hx hZ (ow hw 0 rfl) e0 (g := (mkF m 15 #[rv d, iv (0 : Int32), uv] [(.int (0 : Int32))])) rfl (hb hby dj65m124_15) rfl (by decide) (cap := 0) (by decide) (by decide) (by decide) (by decide) (ad := "[J") (by decide +kernel)
  have V302' := V0.newArr Z0 E302 A302 0 rfl (fun _ => Ex302)
  have Z302 : n0 ≤ h302.size := Nat.le_trans Z0 E302.1
  obtain ⟨b302, g302⟩ : ∃ z, z = h0.size := ⟨_, rfl⟩
  rw [← g302] at V302' st302
  have V302 : OView Z n0 h302 (oB b302 [] :: oB d [x0] :: F) := V302'
  have O302 := O0.ext E302
  refine OGets.step st302 ?_
  refine OGets.step (fun _ => XS.astoreN X302.here hx rfl (hb hby dj65m124_17) rfl rfl (l' := #[rv d, iv (0 : Int32), rv b302]) rfl) ?_
  refine OGets.step (fun _ => XS.aloadN X302.here hx rfl (hb hby dj65m124_18) rfl rfl) ?_
  refine OGets.step (fun _ => XS.iconst X302.here hx rfl (hb hby dj65m124_19)) ?_
  refine OGets.step (fun _ => XS.aloadN X302.here hx rfl (hb hby dj65m124_20) rfl rfl) ?_
  refine OGets.step (fun _ => XS.iconst X302.here hx rfl (hb hby dj65m124_21)) ?_
  show OGets p e below _ (T302.setTop (mkF m 22 #[rv d, iv (0 : Int32), rv b302] [(.int (0 : Int32)), (.ref b302), (.int (0 : Int32)), (.ref d)]))
  refine OGets.step (fun _ => XS.aloadN X302.here hx rfl (hb hby dj65m124_22) rfl rfl) ?_
  obtain ⟨cl303, Ar303, S303⟩ := V302.arr 1 rfl
  have ln303 : cl303.slots.size.toInt32 = (1 : Int32) := by rw [own_len S303]; rfl
  refine OGets.step (U' := T302.setTop (mkF m 24 #[rv d, iv (0 : Int32), rv b302] [(.int (1 : Int32)), (.int (0 : Int32)), (.ref b302), (.int (0 : Int32)), (.ref d)])) (fun t kt => ?_) ?_
  · refine X302.arraylength hx (by rw [e302]; exact Ar303.1) (State.isArrayOf_alike hZ.alike Ar303.2.1) (g := (mkF m 23 #[rv d, iv (0 : Int32), rv b302] [(.ref d), (.int (0 : Int32)), (.ref b302), (.int (0 : Int32)), (.ref d)])) rfl rfl (hb hby dj65m124_23) _ ?_
    rw [ln303]; exact kt
  refine OGets.step (fun _ => XS.iloadN X302.here hx rfl (hb hby dj65m124_24) rfl) ?_
  obtain ⟨_, _, ⟨T304, L304, k304, n304⟩, -, X304, ⟨Lc304, hQ304, l304, y304, z304⟩, st304⟩ := Jvm.LawKit.callS X302 hx (y := (⟨"java/lang/Math", "min", "(II)I"⟩ : MethodName)) hown (mvT hZ (ow hw 62 rfl)) (mvT hZ (ow hw 63 rfl)) (mvT hZ (ow hw 64 rfl)) (mvT hZ (ow hw 65 rfl)) (by decide) (backOf (W := 4) (rm_mn l Z a0 hw [] (1 : Int32) (0 : Int32) h302 n0  Z302 ) hZ (ow hw 65 rfl) (ow hw 64 rfl) (by decide) (by decide)) (g := (mkF m 25 #[rv d, iv (0 : Int32), rv b302] [(.int (0 : Int32)), (.int (1 : Int32)), (.int (0 : Int32)), (.ref b302), (.int (0 : Int32)), (.ref d)])) rfl (by rw [hml]; rfl) (argsL := [(.int (1 : Int32)), (.int (0 : Int32))]) (rest := [(.int (0 : Int32)), (.ref b302), (.int (0 : Int32)), (.ref d)]) (lenOf pd_5 rfl) rfl (by show 2 * 0 + _ ≤ _; exact Nat.le_of_eq rfl) (hb hby dj65m124_25) (fun _ _ => ⟨rfl, e302, Nat.le_of_ble_eq_true rfl, Nat.le_of_ble_eq_true rfl⟩)
  dsimp only [Pt.U, Pt.locs, Pt.cells, Pt.slots] at X304 l304 y304 z304 st304 hQ304
  rw [l304, y304, z304] at X304
  obtain ⟨rfl, rfl, e304⟩ := hQ304
  have N304 := Fr.app N0 (Fr.nil n0)
  rw [show f_mn (1 : Int32) (0 : Int32) = (0 : Int32) from by decide] at st304
  refine OGets.step st304 ?_
  obtain ⟨cs305, As305, Ss305⟩ := V302.arr 1 rfl
  obtain ⟨cd305, Ad305, Sd305⟩ := V302.arr 0 rfl
  obtain ⟨T305, h305, L305, X305, e305, N305, K305, B305, st305⟩ := cpA X304 hx hZ hown (ow hw 66 rfl) (ow hw 69 rfl) (ow hw 67 rfl) (ow hw 68 rfl) e304 (sp := (0 : Int32)) (dp := (0 : Int32)) (nn := (0 : Int32)) (us := []) (own_arv (L := [x0]) As305 Ss305 (1 : Int32) rfl) (own_arv (L := []) Ad305 Sd305 (0 : Int32) rfl) (Or.inl ⟨rfl, rfl⟩) (by decide) (by decide) (by decide) (by decide) (by decide) rfl (by decide) N304 (V302.old 0 rfl) (g := (mkF m 28 #[rv d, iv (0 : Int32), rv b302] [(.int (0 : Int32)), (.int (0 : Int32)), (.ref b302), (.int (0 : Int32)), (.ref d)])) rfl (by rw [hml]; rfl) rfl (hb hby dj65m124_28) (by decide) (W := 0) (by show 2 * 0 + _ ≤ _; exact Nat.le_of_eq rfl) (by decide)
  have V305 : OView Z n0 h305 (oB b302 [] :: oB d [x0] :: F) := V302.copied 0 rfl K305 B305 rfl
  have Z305 : n0 ≤ h305.size := Nat.le_trans Z302 K305.1
  have O305 := O302.keep K305 (allS (V302.old 0 rfl) all0)
  refine OGets.step st305 ?_
  refine OGets.step (fun _ => XS.aloadN X305.here hx rfl (hb hby dj65m124_31) rfl rfl) ?_
  refine OGets.retA X305 hx hlk (t := (.array .long)) Bd.returns rfl rfl rfl (hb hby dj65m124_32) (Nat.le_of_ble_eq_true rfl) (Nat.le_of_ble_eq_true rfl) ?_
  rw [e305]
  exact ⟨b302, rfl, N305, V305, O305⟩
theorem ef_co11 (m : MethodId) (x0 : Addr) (x1 : Int32) : entryFrame m #[(.ref x0), (.int x1)] 3 = mkF m 0 #[.val (.ref x0), .val (.int x1), .unset] [] := by first | (simp [entryFrame, mkF, argsToLocals, Value.category]; done) | rfl
def Q_co11 (Z : State) (d : Addr) (x0 : Int64) (h0 : Heap) (n0 : Nat) (F : List (Addr × OObj)) (v : Option Value) (h : Heap) (L : List Loc) : Prop := ∃ e : Addr, v = some (.ref e) ∧ Fr n0 L ∧ OView Z n0 h (oB e [x0] :: oB d [x0] :: F) ∧ Old Z n0 h
set_option maxRecDepth 65536 in
set_option maxHeartbeats 40000000 in
theorem rm_co11 (l : Launch) (Z : State) (a0 : Array Value) (hw : ∀ d ∈ tables_1, d.before a0 Z = true) (ws : List Jvm.Cond) (d : Addr) (x0 : Int64) (h0 : Heap) (n0 : Nat) (F : List (Addr × OObj)) (Z0 : n0 ≤ h0.size) (V0 : OView Z n0 h0 (oB d [x0] :: F)) (O0 : Old Z n0 h0) :
    MetFree l (⟨"java/util/Arrays", "copyOf", "([JI)[J"⟩ : MethodName) (head1 (Jvm.Cond.code (⟨"java/util/Arrays", "copyOf", "([JI)[J"⟩ : MethodName) jdk_65_method_124_code 3 (some (.array .long)) :: ws) ({ frames := 1, cells := 1, slots := 1, locals := 14 } : Room)) (fun a_ U => a_ = #[(.ref d), (.int (1 : Int32))] ∧ Z.Warmed39 U.vm ∧ U.heap = h0) (fun _ _ _ _ _ => True) (fun _ U o U' => ∃ v L, o = .returned v ∧ Q_co11 Z d x0 h0 n0 F v U'.heap L ∧ FrameEnd U o U' L ({ frames := 1, cells := 1, slots := 1, locals := 14 } : Room).cells ({ frames := 1, cells := 1, slots := 1, locals := 14 } : Room).slots) := by
  refine MetFree.of_bodySF (plainFor_of_name pn_1) hisR ?_
  intro p e s m args below meth c s₁ Bd hml0 hP hK
  obtain ⟨rfl, hZ, hh⟩ := hP
  have hx := Bd.exec
  have hby := Bd.bytes
  have hlk : meth.locks = false := Bd.notSynchronized
  have hml : c.maxLocals = 3 := hml0
  have hown : s.vm.findClass "java/util/Arrays" = some m.cls := findClass_of_methodNamed Bd.named
  have hnm := (name_of_methodNamed Bd.named Bd.method).1
  have X0 : Stand p l e ({ frames := 1, cells := 1, slots := 1, locals := 14 } : Room) s m #[(.ref d), (.int (1 : Int32))] below meth c s₁ [] 0 0 := Stand.of_body Bd
  have e0 : s₁.heap = h0 := by rw [← hh, Bd.state]; rfl
  have N0 := Fr.nil n0
  show OGets p e below (OLeaves s (Q_co11 Z d x0 h0 n0 F ) ({ frames := 1, cells := 1, slots := 1, locals := 14 } : Room).cells ({ frames := 1, cells := 1, slots := 1, locals := 14 } : Room).slots) _
  refine OGets.enter (ef_co11 m d (1 : Int32)) ?_
  show OGets p e below _ (s₁.setTop (mkF m 0 #[rv d, iv (1 : Int32), uv] []))
  refine OGets.step (fun _ => XS.iloadN X0.here hx rfl (hb hby dj65m124_0) rfl) ?_
  refine OGets.step (fun _ => XS.aloadN X0.here hx rfl (hb hby dj65m124_1) rfl rfl) ?_
  obtain ⟨cl306, Ar306, S306⟩ := V0.arr 0 rfl
  have ln306 : cl306.slots.size.toInt32 = (1 : Int32) := by rw [own_len S306]; rfl
  refine OGets.step (U' := s₁.setTop (mkF m 3 #[rv d, iv (1 : Int32), uv] [(.int (1 : Int32)), (.int (1 : Int32))])) (fun t kt => ?_) ?_
  · refine X0.arraylength hx (by rw [e0]; exact Ar306.1) (State.isArrayOf_alike hZ.alike Ar306.2.1) (g := (mkF m 2 #[rv d, iv (1 : Int32), uv] [(.ref d), (.int (1 : Int32))])) rfl rfl (hb hby dj65m124_2) _ ?_
    rw [ln306]; exact kt
  refine OGets.step (fun _ => XS.icmpNo X0.here hx rfl (hb hby dj65m124_3) rfl (teq (by decide : (1 : Int32) = (1 : Int32))).2) ?_
  refine OGets.step (fun _ => XS.aloadN X0.here hx rfl (hb hby dj65m124_6) rfl rfl) ?_
  obtain ⟨cl308, Ar308, S308⟩ := V0.arr 0 rfl
  obtain ⟨T308, h308, X308, e308, E308, A308, Ex308, st308⟩ := cloneA X0 hx hZ hown (ad := "[J") (ow hw 79 rfl) (ow hw 80 rfl) (ow hw 84 rfl) (ow hw 82 rfl) (ow hw 83 rfl) (ow hw 85 rfl) e0 Ar308 (V0.exj 0 rfl) (own_fit (L := [x0]) Ar308 S308) (g := (mkF m 7 #[rv d, iv (1 : Int32), uv] [(.ref d)])) rfl (by rw [hml]; rfl) rfl (hb hby dj65m124_7) (by decide) (W := 0) (by show 2 * 0 + _ ≤ _; exact Nat.le_of_eq rfl) (by decide) (cap := 1) (by rw [own_len S308]; exact Nat.le_of_eq rfl) (by decide) (by decide)
  have V308' := V0.newClone Z0 E308 A308 Ex308 S308
  have Z308 : n0 ≤ h308.size := Nat.le_trans Z0 E308.1
  obtain ⟨b308, g308⟩ : ∃ z, z = h0.size := ⟨_, rfl⟩
  rw [← g308] at V308' st308
  have V308 : OView Z n0 h308 (oB b308 [x0] :: oB d [x0] :: F) := V308'
  have O308 := O0.ext E308
  refine OGets.step st308 ?_
  obtain ⟨T309, X309, e309, st309⟩ := castY X308 hx hZ hown (ow hw 86 rfl) e308 (Ins.self (V308.exj 0 rfl)) (g := (mkF m 10 #[rv d, iv (1 : Int32), uv] [(.ref b308)])) rfl rfl (hb hby dj65m124_10)
  refine OGets.step st309 ?_
  refine OGets.retA X309 hx hlk (t := (.array .long)) Bd.returns rfl rfl rfl (hb hby dj65m124_13) (Nat.le_of_ble_eq_true rfl) (Nat.le_of_ble_eq_true rfl) ?_
  rw [e309]
  exact ⟨b308, rfl, N0, V308, O308⟩
theorem ef_co20 (m : MethodId) (x0 : Addr) (x1 : Int32) : entryFrame m #[(.ref x0), (.int x1)] 3 = mkF m 0 #[.val (.ref x0), .val (.int x1), .unset] [] := by first | (simp [entryFrame, mkF, argsToLocals, Value.category]; done) | rfl
def Q_co20 (Z : State) (d : Addr) (x0 : Int64) (x1 : Int64) (h0 : Heap) (n0 : Nat) (F : List (Addr × OObj)) (v : Option Value) (h : Heap) (L : List Loc) : Prop := ∃ e : Addr, v = some (.ref e) ∧ Fr n0 L ∧ OView Z n0 h (oB e [] :: oB d [x0, x1] :: F) ∧ Old Z n0 h
set_option maxRecDepth 65536 in
set_option maxHeartbeats 40000000 in
theorem rm_co20 (l : Launch) (Z : State) (a0 : Array Value) (hw : ∀ d ∈ tables_1, d.before a0 Z = true) (ws : List Jvm.Cond) (d : Addr) (x0 : Int64) (x1 : Int64) (h0 : Heap) (n0 : Nat) (F : List (Addr × OObj)) (Z0 : n0 ≤ h0.size) (V0 : OView Z n0 h0 (oB d [x0, x1] :: F)) (O0 : Old Z n0 h0) :
    MetFree l (⟨"java/util/Arrays", "copyOf", "([JI)[J"⟩ : MethodName) (head1 (Jvm.Cond.code (⟨"java/util/Arrays", "copyOf", "([JI)[J"⟩ : MethodName) jdk_65_method_124_code 3 (some (.array .long)) :: ws) ({ frames := 1, cells := 1, slots := 0, locals := 18 } : Room)) (fun a_ U => a_ = #[(.ref d), (.int (0 : Int32))] ∧ Z.Warmed39 U.vm ∧ U.heap = h0) (fun _ _ _ _ _ => True) (fun _ U o U' => ∃ v L, o = .returned v ∧ Q_co20 Z d x0 x1 h0 n0 F v U'.heap L ∧ FrameEnd U o U' L ({ frames := 1, cells := 1, slots := 0, locals := 18 } : Room).cells ({ frames := 1, cells := 1, slots := 0, locals := 18 } : Room).slots) := by
  refine MetFree.of_bodySF (plainFor_of_name pn_1) hisR ?_
  intro p e s m args below meth c s₁ Bd hml0 hP hK
  obtain ⟨rfl, hZ, hh⟩ := hP
  have hx := Bd.exec
  have hby := Bd.bytes
  have hlk : meth.locks = false := Bd.notSynchronized
  have hml : c.maxLocals = 3 := hml0
  have hown : s.vm.findClass "java/util/Arrays" = some m.cls := findClass_of_methodNamed Bd.named
  have hnm := (name_of_methodNamed Bd.named Bd.method).1
  have X0 : Stand p l e ({ frames := 1, cells := 1, slots := 0, locals := 18 } : Room) s m #[(.ref d), (.int (0 : Int32))] below meth c s₁ [] 0 0 := Stand.of_body Bd
  have e0 : s₁.heap = h0 := by rw [← hh, Bd.state]; rfl
  have N0 := Fr.nil n0
  show OGets p e below (OLeaves s (Q_co20 Z d x0 x1 h0 n0 F ) ({ frames := 1, cells := 1, slots := 0, locals := 18 } : Room).cells ({ frames := 1, cells := 1, slots := 0, locals := 18 } : Room).slots) _
  refine OGets.enter (ef_co20 m d (0 : Int32)) ?_
  show OGets p e below _ (s₁.setTop (mkF m 0 #[rv d, iv (0 : Int32), uv] []))
  refine OGets.step (fun _ => XS.iloadN X0.here hx rfl (hb hby dj65m124_0) rfl) ?_
  refine OGets.step (fun _ => XS.aloadN X0.here hx rfl (hb hby dj65m124_1) rfl rfl) ?_
  obtain ⟨cl310, Ar310, S310⟩ := V0.arr 0 rfl
  have ln310 : cl310.slots.size.toInt32 = (2 : Int32) := by rw [own_len S310]; rfl
  refine OGets.step (U' := s₁.setTop (mkF m 3 #[rv d, iv (0 : Int32), uv] [(.int (2 : Int32)), (.int (0 : Int32))])) (fun t kt => ?_) ?_
  · refine X0.arraylength hx (by rw [e0]; exact Ar310.1) (State.isArrayOf_alike hZ.alike Ar310.2.1) (g := (mkF m 2 #[rv d, iv (0 : Int32), uv] [(.ref d), (.int (0 : Int32))])) rfl rfl (hb hby dj65m124_2) _ ?_
    rw [ln310]; exact kt
  refine OGets.step (fun _ => XS.icmpYes X0.here hx rfl (pc0 := 3) (pc' := 14) rfl (hb hby dj65m124_3) rfl (feq (by decide : ¬ ((0 : Int32) = (2 : Int32)))).2 (by decide) (by decide)) ?_
  refine OGets.step (fun _ => XS.iloadN X0.here hx rfl (hb hby dj65m124_14) rfl) ?_
  obtain ⟨T312, h312, k312, X312, e312, E312, A312, Ex312, st312⟩ := newPE X0 hx hZ (ow hw 0 rfl) e0 (g := (mkF m 15 #[rv d, iv (0 : Int32), uv] [(.int (0 : Int32))])) rfl (hb hby dj65m124_15) rfl (by decide) (cap := 0) (by decide) (by decide) (by decide) (by decide) (ad := "[J") (by decide +kernel)
  have V312' := V0.newArr Z0 E312 A312 0 rfl (fun _ => Ex312)
  have Z312 : n0 ≤ h312.size := Nat.le_trans Z0 E312.1
  obtain ⟨b312, g312⟩ : ∃ z, z = h0.size := ⟨_, rfl⟩
  rw [← g312] at V312' st312
  have V312 : OView Z n0 h312 (oB b312 [] :: oB d [x0, x1] :: F) := V312'
  have O312 := O0.ext E312
  refine OGets.step st312 ?_
  refine OGets.step (fun _ => XS.astoreN X312.here hx rfl (hb hby dj65m124_17) rfl rfl (l' := #[rv d, iv (0 : Int32), rv b312]) rfl) ?_
  refine OGets.step (fun _ => XS.aloadN X312.here hx rfl (hb hby dj65m124_18) rfl rfl) ?_
  refine OGets.step (fun _ => XS.iconst X312.here hx rfl (hb hby dj65m124_19)) ?_
  refine OGets.step (fun _ => XS.aloadN X312.here hx rfl (hb hby dj65m124_20) rfl rfl) ?_
  refine OGets.step (fun _ => XS.iconst X312.here hx rfl (hb hby dj65m124_21)) ?_
  show OGets p e below _ (T312.setTop (mkF m 22 #[rv d, iv (0 : Int32), rv b312] [(.int (0 : Int32)), (.ref b312), (.int (0 : Int32)), (.ref d)]))
  refine OGets.step (fun _ => XS.aloadN X312.here hx rfl (hb hby dj65m124_22) rfl rfl) ?_
  obtain ⟨cl313, Ar313, S313⟩ := V312.arr 1 rfl
  have ln313 : cl313.slots.size.toInt32 = (2 : Int32) := by rw [own_len S313]; rfl
  refine OGets.step (U' := T312.setTop (mkF m 24 #[rv d, iv (0 : Int32), rv b312] [(.int (2 : Int32)), (.int (0 : Int32)), (.ref b312), (.int (0 : Int32)), (.ref d)])) (fun t kt => ?_) ?_
  · refine X312.arraylength hx (by rw [e312]; exact Ar313.1) (State.isArrayOf_alike hZ.alike Ar313.2.1) (g := (mkF m 23 #[rv d, iv (0 : Int32), rv b312] [(.ref d), (.int (0 : Int32)), (.ref b312), (.int (0 : Int32)), (.ref d)])) rfl rfl (hb hby dj65m124_23) _ ?_
    rw [ln313]; exact kt
  refine OGets.step (fun _ => XS.iloadN X312.here hx rfl (hb hby dj65m124_24) rfl) ?_
  obtain ⟨_, _, ⟨T314, L314, k314, n314⟩, -, X314, ⟨Lc314, hQ314, l314, y314, z314⟩, st314⟩ := Jvm.LawKit.callS X312 hx (y := (⟨"java/lang/Math", "min", "(II)I"⟩ : MethodName)) hown (mvT hZ (ow hw 62 rfl)) (mvT hZ (ow hw 63 rfl)) (mvT hZ (ow hw 64 rfl)) (mvT hZ (ow hw 65 rfl)) (by decide) (backOf (W := 4) (rm_mn l Z a0 hw [] (2 : Int32) (0 : Int32) h312 n0  Z312 ) hZ (ow hw 65 rfl) (ow hw 64 rfl) (by decide) (by decide)) (g := (mkF m 25 #[rv d, iv (0 : Int32), rv b312] [(.int (0 : Int32)), (.int (2 : Int32)), (.int (0 : Int32)), (.ref b312), (.int (0 : Int32)), (.ref d)])) rfl (by rw [hml]; rfl) (argsL := [(.int (2 : Int32)), (.int (0 : Int32))]) (rest := [(.int (0 : Int32)), (.ref b312), (.int (0 : Int32)), (.ref d)]) (lenOf pd_5 rfl) rfl (by show 2 * 0 + _ ≤ _; exact Nat.le_of_eq rfl) (hb hby dj65m124_25) (fun _ _ => ⟨rfl, e312, Nat.le_of_ble_eq_true rfl, Nat.le_of_ble_eq_true rfl⟩)
  dsimp only [Pt.U, Pt.locs, Pt.cells, Pt.slots] at X314 l314 y314 z314 st314 hQ314
  rw [l314, y314, z314] at X314
  obtain ⟨rfl, rfl, e314⟩ := hQ314
  have N314 := Fr.app N0 (Fr.nil n0)
  rw [show f_mn (2 : Int32) (0 : Int32) = (0 : Int32) from by decide] at st314
  refine OGets.step st314 ?_
  obtain ⟨cs315, As315, Ss315⟩ := V312.arr 1 rfl
  obtain ⟨cd315, Ad315, Sd315⟩ := V312.arr 0 rfl
  obtain ⟨T315, h315, L315, X315, e315, N315, K315, B315, st315⟩ := cpA X314 hx hZ hown (ow hw 66 rfl) (ow hw 69 rfl) (ow hw 67 rfl) (ow hw 68 rfl) e314 (sp := (0 : Int32)) (dp := (0 : Int32)) (nn := (0 : Int32)) (us := []) (own_arv (L := [x0, x1]) As315 Ss315 (2 : Int32) rfl) (own_arv (L := []) Ad315 Sd315 (0 : Int32) rfl) (Or.inl ⟨rfl, rfl⟩) (by decide) (by decide) (by decide) (by decide) (by decide) rfl (by decide) N314 (V312.old 0 rfl) (g := (mkF m 28 #[rv d, iv (0 : Int32), rv b312] [(.int (0 : Int32)), (.int (0 : Int32)), (.ref b312), (.int (0 : Int32)), (.ref d)])) rfl (by rw [hml]; rfl) rfl (hb hby dj65m124_28) (by decide) (W := 0) (by show 2 * 0 + _ ≤ _; exact Nat.le_of_eq rfl) (by decide)
  have V315 : OView Z n0 h315 (oB b312 [] :: oB d [x0, x1] :: F) := V312.copied 0 rfl K315 B315 rfl
  have Z315 : n0 ≤ h315.size := Nat.le_trans Z312 K315.1
  have O315 := O312.keep K315 (allS (V312.old 0 rfl) all0)
  refine OGets.step st315 ?_
  refine OGets.step (fun _ => XS.aloadN X315.here hx rfl (hb hby dj65m124_31) rfl rfl) ?_
  refine OGets.retA X315 hx hlk (t := (.array .long)) Bd.returns rfl rfl rfl (hb hby dj65m124_32) (Nat.le_of_ble_eq_true rfl) (Nat.le_of_ble_eq_true rfl) ?_
  rw [e315]
  exact ⟨b312, rfl, N315, V315, O315⟩
theorem ef_co21 (m : MethodId) (x0 : Addr) (x1 : Int32) : entryFrame m #[(.ref x0), (.int x1)] 3 = mkF m 0 #[.val (.ref x0), .val (.int x1), .unset] [] := by first | (simp [entryFrame, mkF, argsToLocals, Value.category]; done) | rfl
def Q_co21 (Z : State) (d : Addr) (x0 : Int64) (x1 : Int64) (h0 : Heap) (n0 : Nat) (F : List (Addr × OObj)) (v : Option Value) (h : Heap) (L : List Loc) : Prop := ∃ e : Addr, v = some (.ref e) ∧ Fr n0 L ∧ OView Z n0 h (oB e [x0] :: oB d [x0, x1] :: F) ∧ Old Z n0 h
set_option maxRecDepth 65536 in
set_option maxHeartbeats 40000000 in
theorem rm_co21 (l : Launch) (Z : State) (a0 : Array Value) (hw : ∀ d ∈ tables_1, d.before a0 Z = true) (ws : List Jvm.Cond) (d : Addr) (x0 : Int64) (x1 : Int64) (h0 : Heap) (n0 : Nat) (F : List (Addr × OObj)) (Z0 : n0 ≤ h0.size) (V0 : OView Z n0 h0 (oB d [x0, x1] :: F)) (O0 : Old Z n0 h0) :
    MetFree l (⟨"java/util/Arrays", "copyOf", "([JI)[J"⟩ : MethodName) (head1 (Jvm.Cond.code (⟨"java/util/Arrays", "copyOf", "([JI)[J"⟩ : MethodName) jdk_65_method_124_code 3 (some (.array .long)) :: ws) ({ frames := 1, cells := 1, slots := 1, locals := 18 } : Room)) (fun a_ U => a_ = #[(.ref d), (.int (1 : Int32))] ∧ Z.Warmed39 U.vm ∧ U.heap = h0) (fun _ _ _ _ _ => True) (fun _ U o U' => ∃ v L, o = .returned v ∧ Q_co21 Z d x0 x1 h0 n0 F v U'.heap L ∧ FrameEnd U o U' L ({ frames := 1, cells := 1, slots := 1, locals := 18 } : Room).cells ({ frames := 1, cells := 1, slots := 1, locals := 18 } : Room).slots) := by
  refine MetFree.of_bodySF (plainFor_of_name pn_1) hisR ?_
  intro p e s m args below meth c s₁ Bd hml0 hP hK
  obtain ⟨rfl, hZ, hh⟩ := hP
  have hx := Bd.exec
  have hby := Bd.bytes
  have hlk : meth.locks = false := Bd.notSynchronized
  have hml : c.maxLocals = 3 := hml0
  have hown : s.vm.findClass "java/util/Arrays" = some m.cls := findClass_of_methodNamed Bd.named
  have hnm := (name_of_methodNamed Bd.named Bd.method).1
  have X0 : Stand p l e ({ frames := 1, cells := 1, slots := 1, locals := 18 } : Room) s m #[(.ref d), (.int (1 : Int32))] below meth c s₁ [] 0 0 := Stand.of_body Bd
  have e0 : s₁.heap = h0 := by rw [← hh, Bd.state]; rfl
  have N0 := Fr.nil n0
  show OGets p e below (OLeaves s (Q_co21 Z d x0 x1 h0 n0 F ) ({ frames := 1, cells := 1, slots := 1, locals := 18 } : Room).cells ({ frames := 1, cells := 1, slots := 1, locals := 18 } : Room).slots) _
  refine OGets.enter (ef_co21 m d (1 : Int32)) ?_
  show OGets p e below _ (s₁.setTop (mkF m 0 #[rv d, iv (1 : Int32), uv] []))
  refine OGets.step (fun _ => XS.iloadN X0.here hx rfl (hb hby dj65m124_0) rfl) ?_
  refine OGets.step (fun _ => XS.aloadN X0.here hx rfl (hb hby dj65m124_1) rfl rfl) ?_
  obtain ⟨cl316, Ar316, S316⟩ := V0.arr 0 rfl
  have ln316 : cl316.slots.size.toInt32 = (2 : Int32) := by rw [own_len S316]; rfl
  refine OGets.step (U' := s₁.setTop (mkF m 3 #[rv d, iv (1 : Int32), uv] [(.int (2 : Int32)), (.int (1 : Int32))])) (fun t kt => ?_) ?_
  · refine X0.arraylength hx (by rw [e0]; exact Ar316.1) (State.isArrayOf_alike hZ.alike Ar316.2.1) (g := (mkF m 2 #[rv d, iv (1 : Int32), uv] [(.ref d), (.int (1 : Int32))])) rfl rfl (hb hby dj65m124_2) _ ?_
    rw [ln316]; exact kt
  refine OGets.step (fun _ => XS.icmpYes X0.here hx rfl (pc0 := 3) (pc' := 14) rfl (hb hby dj65m124_3) rfl (feq (by decide : ¬ ((1 : Int32) = (2 : Int32)))).2 (by decide) (by decide)) ?_
  refine OGets.step (fun _ => XS.iloadN X0.here hx rfl (hb hby dj65m124_14) rfl) ?_
  obtain ⟨T318, h318, k318, X318, e318, E318, A318, Ex318, st318⟩ := newPE X0 hx hZ (ow hw 0 rfl) e0 (g := (mkF m 15 #[rv d, iv (1 : Int32), uv] [(.int (1 : Int32))])) rfl (hb hby dj65m124_15) rfl (by decide) (cap := 1) (by decide) (by decide) (by decide) (by decide) (ad := "[J") (by decide +kernel)
  have V318' := V0.newArr Z0 E318 A318 1 rfl (fun _ => Ex318)
  have Z318 : n0 ≤ h318.size := Nat.le_trans Z0 E318.1
  obtain ⟨b318, g318⟩ : ∃ z, z = h0.size := ⟨_, rfl⟩
  rw [← g318] at V318' st318
  have V318 : OView Z n0 h318 (oB b318 [(0 : Int64)] :: oB d [x0, x1] :: F) := V318'
  have O318 := O0.ext E318
  refine OGets.step st318 ?_
  refine OGets.step (fun _ => XS.astoreN X318.here hx rfl (hb hby dj65m124_17) rfl rfl (l' := #[rv d, iv (1 : Int32), rv b318]) rfl) ?_
  refine OGets.step (fun _ => XS.aloadN X318.here hx rfl (hb hby dj65m124_18) rfl rfl) ?_
  refine OGets.step (fun _ => XS.iconst X318.here hx rfl (hb hby dj65m124_19)) ?_
  refine OGets.step (fun _ => XS.aloadN X318.here hx rfl (hb hby dj65m124_20) rfl rfl) ?_
  refine OGets.step (fun _ => XS.iconst X318.here hx rfl (hb hby dj65m124_21)) ?_
  show OGets p e below _ (T318.setTop (mkF m 22 #[rv d, iv (1 : Int32), rv b318] [(.int (0 : Int32)), (.ref b318), (.int (0 : Int32)), (.ref d)]))
  refine OGets.step (fun _ => XS.aloadN X318.here hx rfl (hb hby dj65m124_22) rfl rfl) ?_
  obtain ⟨cl319, Ar319, S319⟩ := V318.arr 1 rfl
  have ln319 : cl319.slots.size.toInt32 = (2 : Int32) := by rw [own_len S319]; rfl
  refine OGets.step (U' := T318.setTop (mkF m 24 #[rv d, iv (1 : Int32), rv b318] [(.int (2 : Int32)), (.int (0 : Int32)), (.ref b318), (.int (0 : Int32)), (.ref d)])) (fun t kt => ?_) ?_
  · refine X318.arraylength hx (by rw [e318]; exact Ar319.1) (State.isArrayOf_alike hZ.alike Ar319.2.1) (g := (mkF m 23 #[rv d, iv (1 : Int32), rv b318] [(.ref d), (.int (0 : Int32)), (.ref b318), (.int (0 : Int32)), (.ref d)])) rfl rfl (hb hby dj65m124_23) _ ?_
    rw [ln319]; exact kt
  refine OGets.step (fun _ => XS.iloadN X318.here hx rfl (hb hby dj65m124_24) rfl) ?_
  obtain ⟨_, _, ⟨T320, L320, k320, n320⟩, -, X320, ⟨Lc320, hQ320, l320, y320, z320⟩, st320⟩ := Jvm.LawKit.callS X318 hx (y := (⟨"java/lang/Math", "min", "(II)I"⟩ : MethodName)) hown (mvT hZ (ow hw 62 rfl)) (mvT hZ (ow hw 63 rfl)) (mvT hZ (ow hw 64 rfl)) (mvT hZ (ow hw 65 rfl)) (by decide) (backOf (W := 4) (rm_mn l Z a0 hw [] (2 : Int32) (1 : Int32) h318 n0  Z318 ) hZ (ow hw 65 rfl) (ow hw 64 rfl) (by decide) (by decide)) (g := (mkF m 25 #[rv d, iv (1 : Int32), rv b318] [(.int (1 : Int32)), (.int (2 : Int32)), (.int (0 : Int32)), (.ref b318), (.int (0 : Int32)), (.ref d)])) rfl (by rw [hml]; rfl) (argsL := [(.int (2 : Int32)), (.int (1 : Int32))]) (rest := [(.int (0 : Int32)), (.ref b318), (.int (0 : Int32)), (.ref d)]) (lenOf pd_5 rfl) rfl (by show 2 * 0 + _ ≤ _; exact Nat.le_of_eq rfl) (hb hby dj65m124_25) (fun _ _ => ⟨rfl, e318, Nat.le_of_ble_eq_true rfl, Nat.le_of_ble_eq_true rfl⟩)
  dsimp only [Pt.U, Pt.locs, Pt.cells, Pt.slots] at X320 l320 y320 z320 st320 hQ320
  rw [l320, y320, z320] at X320
  obtain ⟨rfl, rfl, e320⟩ := hQ320
  have N320 := Fr.app N0 (Fr.nil n0)
  rw [show f_mn (2 : Int32) (1 : Int32) = (1 : Int32) from by decide] at st320
  refine OGets.step st320 ?_
  obtain ⟨cs321, As321, Ss321⟩ := V318.arr 1 rfl
  obtain ⟨cd321, Ad321, Sd321⟩ := V318.arr 0 rfl
  obtain ⟨T321, h321, L321, X321, e321, N321, K321, B321, st321⟩ := cpA X320 hx hZ hown (ow hw 66 rfl) (ow hw 69 rfl) (ow hw 67 rfl) (ow hw 68 rfl) e320 (sp := (0 : Int32)) (dp := (0 : Int32)) (nn := (1 : Int32)) (us := [.long x0]) (own_arv (L := [x0, x1]) As321 Ss321 (2 : Int32) rfl) (own_arv (L := [(0 : Int64)]) Ad321 Sd321 (1 : Int32) rfl) (Or.inl ⟨rfl, rfl⟩) (by decide) (by decide) (by decide) (by decide) (by decide) rfl (by decide) N320 (V318.old 0 rfl) (g := (mkF m 28 #[rv d, iv (1 : Int32), rv b318] [(.int (1 : Int32)), (.int (0 : Int32)), (.ref b318), (.int (0 : Int32)), (.ref d)])) rfl (by rw [hml]; rfl) rfl (hb hby dj65m124_28) (by decide) (W := 0) (by show 2 * 0 + _ ≤ _; exact Nat.le_of_eq rfl) (by decide)
  have V321 : OView Z n0 h321 (oB b318 [x0] :: oB d [x0, x1] :: F) := V318.copied 0 rfl K321 B321 rfl
  have Z321 : n0 ≤ h321.size := Nat.le_trans Z318 K321.1
  have O321 := O318.keep K321 (allS (V318.old 0 rfl) all0)
  refine OGets.step st321 ?_
  refine OGets.step (fun _ => XS.aloadN X321.here hx rfl (hb hby dj65m124_31) rfl rfl) ?_
  refine OGets.retA X321 hx hlk (t := (.array .long)) Bd.returns rfl rfl rfl (hb hby dj65m124_32) (Nat.le_of_ble_eq_true rfl) (Nat.le_of_ble_eq_true rfl) ?_
  rw [e321]
  exact ⟨b318, rfl, N321, V321, O321⟩
theorem ef_co22 (m : MethodId) (x0 : Addr) (x1 : Int32) : entryFrame m #[(.ref x0), (.int x1)] 3 = mkF m 0 #[.val (.ref x0), .val (.int x1), .unset] [] := by first | (simp [entryFrame, mkF, argsToLocals, Value.category]; done) | rfl
def Q_co22 (Z : State) (d : Addr) (x0 : Int64) (x1 : Int64) (h0 : Heap) (n0 : Nat) (F : List (Addr × OObj)) (v : Option Value) (h : Heap) (L : List Loc) : Prop := ∃ e : Addr, v = some (.ref e) ∧ Fr n0 L ∧ OView Z n0 h (oB e [x0, x1] :: oB d [x0, x1] :: F) ∧ Old Z n0 h
set_option maxRecDepth 65536 in
set_option maxHeartbeats 40000000 in
theorem rm_co22 (l : Launch) (Z : State) (a0 : Array Value) (hw : ∀ d ∈ tables_1, d.before a0 Z = true) (ws : List Jvm.Cond) (d : Addr) (x0 : Int64) (x1 : Int64) (h0 : Heap) (n0 : Nat) (F : List (Addr × OObj)) (Z0 : n0 ≤ h0.size) (V0 : OView Z n0 h0 (oB d [x0, x1] :: F)) (O0 : Old Z n0 h0) :
    MetFree l (⟨"java/util/Arrays", "copyOf", "([JI)[J"⟩ : MethodName) (head1 (Jvm.Cond.code (⟨"java/util/Arrays", "copyOf", "([JI)[J"⟩ : MethodName) jdk_65_method_124_code 3 (some (.array .long)) :: ws) ({ frames := 1, cells := 1, slots := 2, locals := 14 } : Room)) (fun a_ U => a_ = #[(.ref d), (.int (2 : Int32))] ∧ Z.Warmed39 U.vm ∧ U.heap = h0) (fun _ _ _ _ _ => True) (fun _ U o U' => ∃ v L, o = .returned v ∧ Q_co22 Z d x0 x1 h0 n0 F v U'.heap L ∧ FrameEnd U o U' L ({ frames := 1, cells := 1, slots := 2, locals := 14 } : Room).cells ({ frames := 1, cells := 1, slots := 2, locals := 14 } : Room).slots) := by
  refine MetFree.of_bodySF (plainFor_of_name pn_1) hisR ?_
  intro p e s m args below meth c s₁ Bd hml0 hP hK
  obtain ⟨rfl, hZ, hh⟩ := hP
  have hx := Bd.exec
  have hby := Bd.bytes
  have hlk : meth.locks = false := Bd.notSynchronized
  have hml : c.maxLocals = 3 := hml0
  have hown : s.vm.findClass "java/util/Arrays" = some m.cls := findClass_of_methodNamed Bd.named
  have hnm := (name_of_methodNamed Bd.named Bd.method).1
  have X0 : Stand p l e ({ frames := 1, cells := 1, slots := 2, locals := 14 } : Room) s m #[(.ref d), (.int (2 : Int32))] below meth c s₁ [] 0 0 := Stand.of_body Bd
  have e0 : s₁.heap = h0 := by rw [← hh, Bd.state]; rfl
  have N0 := Fr.nil n0
  show OGets p e below (OLeaves s (Q_co22 Z d x0 x1 h0 n0 F ) ({ frames := 1, cells := 1, slots := 2, locals := 14 } : Room).cells ({ frames := 1, cells := 1, slots := 2, locals := 14 } : Room).slots) _
  refine OGets.enter (ef_co22 m d (2 : Int32)) ?_
  show OGets p e below _ (s₁.setTop (mkF m 0 #[rv d, iv (2 : Int32), uv] []))
  refine OGets.step (fun _ => XS.iloadN X0.here hx rfl (hb hby dj65m124_0) rfl) ?_
  refine OGets.step (fun _ => XS.aloadN X0.here hx rfl (hb hby dj65m124_1) rfl rfl) ?_
  obtain ⟨cl322, Ar322, S322⟩ := V0.arr 0 rfl
  have ln322 : cl322.slots.size.toInt32 = (2 : Int32) := by rw [own_len S322]; rfl
  refine OGets.step (U' := s₁.setTop (mkF m 3 #[rv d, iv (2 : Int32), uv] [(.int (2 : Int32)), (.int (2 : Int32))])) (fun t kt => ?_) ?_
  · refine X0.arraylength hx (by rw [e0]; exact Ar322.1) (State.isArrayOf_alike hZ.alike Ar322.2.1) (g := (mkF m 2 #[rv d, iv (2 : Int32), uv] [(.ref d), (.int (2 : Int32))])) rfl rfl (hb hby dj65m124_2) _ ?_
    rw [ln322]; exact kt
  refine OGets.step (fun _ => XS.icmpNo X0.here hx rfl (hb hby dj65m124_3) rfl (teq (by decide : (2 : Int32) = (2 : Int32))).2) ?_
  refine OGets.step (fun _ => XS.aloadN X0.here hx rfl (hb hby dj65m124_6) rfl rfl) ?_
  obtain ⟨cl324, Ar324, S324⟩ := V0.arr 0 rfl
  obtain ⟨T324, h324, X324, e324, E324, A324, Ex324, st324⟩ := cloneA X0 hx hZ hown (ad := "[J") (ow hw 79 rfl) (ow hw 80 rfl) (ow hw 84 rfl) (ow hw 82 rfl) (ow hw 83 rfl) (ow hw 85 rfl) e0 Ar324 (V0.exj 0 rfl) (own_fit (L := [x0, x1]) Ar324 S324) (g := (mkF m 7 #[rv d, iv (2 : Int32), uv] [(.ref d)])) rfl (by rw [hml]; rfl) rfl (hb hby dj65m124_7) (by decide) (W := 0) (by show 2 * 0 + _ ≤ _; exact Nat.le_of_eq rfl) (by decide) (cap := 2) (by rw [own_len S324]; exact Nat.le_of_eq rfl) (by decide) (by decide)
  have V324' := V0.newClone Z0 E324 A324 Ex324 S324
  have Z324 : n0 ≤ h324.size := Nat.le_trans Z0 E324.1
  obtain ⟨b324, g324⟩ : ∃ z, z = h0.size := ⟨_, rfl⟩
  rw [← g324] at V324' st324
  have V324 : OView Z n0 h324 (oB b324 [x0, x1] :: oB d [x0, x1] :: F) := V324'
  have O324 := O0.ext E324
  refine OGets.step st324 ?_
  obtain ⟨T325, X325, e325, st325⟩ := castY X324 hx hZ hown (ow hw 86 rfl) e324 (Ins.self (V324.exj 0 rfl)) (g := (mkF m 10 #[rv d, iv (2 : Int32), uv] [(.ref b324)])) rfl rfl (hb hby dj65m124_10)
  refine OGets.step st325 ?_
  refine OGets.retA X325 hx hlk (t := (.array .long)) Bd.returns rfl rfl rfl (hb hby dj65m124_13) (Nat.le_of_ble_eq_true rfl) (Nat.le_of_ble_eq_true rfl) ?_
  rw [e325]
  exact ⟨b324, rfl, N0, V324, O324⟩
theorem pn_7 : plainName "java/util/BitSet" = true := by first | (simp [plainName, overriddenIn]; done) | decide +kernel
theorem dj92m2_0 : decode jdk_92_method_2_code 0 = .ok (.getstatic 3, 3) := by decide +kernel
theorem dj92m2_3 : decode jdk_92_method_2_code 3 = .ok (.ifCond .ne 34, 3) := by decide +kernel
theorem dj92m2_37 : decode jdk_92_method_2_code 37 = .ok (.getstatic 3, 3) := by decide +kernel
theorem dj92m2_40 : decode jdk_92_method_2_code 40 = .ok (.ifCond .ne 30, 3) := by decide +kernel
theorem dj92m2_70 : decode jdk_92_method_2_code 70 = .ok (.getstatic 3, 3) := by decide +kernel
theorem dj92m2_73 : decode jdk_92_method_2_code 73 = .ok (.ifCond .ne 37, 3) := by decide +kernel
theorem dj92m2_110 : decode jdk_92_method_2_code 110 = .ok (.return_, 1) := by decide +kernel
theorem ef_chk0 (m : MethodId) (x0 : Addr) : entryFrame m #[(.ref x0)] 1 = mkF m 0 #[.val (.ref x0)] [] := by first | (simp [entryFrame, mkF, argsToLocals, Value.category]; done) | rfl
def Q_chk0 (Z : State) (a : Addr) (d : Addr) (h0 : Heap) (n0 : Nat) (F : List (Addr × OObj)) (v : Option Value) (h : Heap) (L : List Loc) : Prop := v = none ∧ L = [] ∧ h = h0
set_option maxRecDepth 65536 in
set_option maxHeartbeats 40000000 in
theorem rm_chk0 (l : Launch) (Z : State) (a0 : Array Value) (hw : ∀ d ∈ tables_1, d.before a0 Z = true) (ws : List Jvm.Cond) (a : Addr) (d : Addr) (h0 : Heap) (n0 : Nat) (F : List (Addr × OObj)) (Z0 : n0 ≤ h0.size) (SA : Sta Z Z.heap "java/util/BitSet" "$assertionsDisabled" "Z" (.int (1 : Int32))) (V0 : OView Z n0 h0 (oS a [(.int (0 : Int32)), (.int (0 : Int32)), (.ref d)] :: F)) (O0 : Old Z n0 h0) :
    MetFree l (⟨"java/util/BitSet", "checkInvariants", "()V"⟩ : MethodName) (head1 (Jvm.Cond.code (⟨"java/util/BitSet", "checkInvariants", "()V"⟩ : MethodName) jdk_92_method_2_code 1 none :: ws) ({ frames := 0, cells := 0, slots := 0, locals := 0 } : Room)) (fun a_ U => a_ = #[(.ref a)] ∧ Z.Warmed39 U.vm ∧ U.heap = h0) (fun _ _ _ _ _ => True) (fun _ U o U' => ∃ v L, o = .returned v ∧ Q_chk0 Z a d h0 n0 F v U'.heap L ∧ FrameEnd U o U' L ({ frames := 0, cells := 0, slots := 0, locals := 0 } : Room).cells ({ frames := 0, cells := 0, slots := 0, locals := 0 } : Room).slots) := by
  refine MetFree.of_bodySF (plainFor_of_name pn_7) hisR ?_
  intro p e s m args below meth c s₁ Bd hml0 hP hK
  obtain ⟨rfl, hZ, hh⟩ := hP
  have hx := Bd.exec
  have hby := Bd.bytes
  have hlk : meth.locks = false := Bd.notSynchronized
  have hml : c.maxLocals = 1 := hml0
  have hown : s.vm.findClass "java/util/BitSet" = some m.cls := findClass_of_methodNamed Bd.named
  have hnm := (name_of_methodNamed Bd.named Bd.method).1
  have X0 : Stand p l e ({ frames := 0, cells := 0, slots := 0, locals := 0 } : Room) s m #[(.ref a)] below meth c s₁ [] 0 0 := Stand.of_body Bd
  have e0 : s₁.heap = h0 := by rw [← hh, Bd.state]; rfl
  have N0 := Fr.nil n0
  show OGets p e below (OLeaves s (Q_chk0 Z a d h0 n0 F ) ({ frames := 0, cells := 0, slots := 0, locals := 0 } : Room).cells ({ frames := 0, cells := 0, slots := 0, locals := 0 } : Room).slots) _
  refine OGets.enter (ef_chk0 m a) ?_
  show OGets p e below _ (s₁.setTop (mkF m 0 #[rv a] []))
  obtain ⟨T326, X326, e326, st326⟩ := getS2 X0 hx hZ hown (host := "") (Or.inl (ow hw 104 rfl)) Via.refl e0 (SA.ext O0.2) (g := (mkF m 0 #[rv a] [])) rfl (hb hby dj92m2_0)
  refine OGets.step st326 ?_
  refine OGets.step (fun _ => XS.ifYes X326.here hx rfl (pc0 := 3) (pc' := 37) rfl (hb hby dj92m2_3) rfl ((if0 _ _).trans (feq (by decide : ¬ ((1 : Int32) = (0 : Int32)))).2) (by decide) (by decide)) ?_
  obtain ⟨T328, X328, e328, st328⟩ := getS2 X326 hx hZ hown (host := "") (Or.inl (ow hw 104 rfl)) Via.refl e326 (SA.ext O0.2) (g := (mkF m 37 #[rv a] [])) rfl (hb hby dj92m2_37)
  refine OGets.step st328 ?_
  refine OGets.step (fun _ => XS.ifYes X328.here hx rfl (pc0 := 40) (pc' := 70) rfl (hb hby dj92m2_40) rfl ((if0 _ _).trans (feq (by decide : ¬ ((1 : Int32) = (0 : Int32)))).2) (by decide) (by decide)) ?_
  obtain ⟨T330, X330, e330, st330⟩ := getS2 X328 hx hZ hown (host := "") (Or.inl (ow hw 104 rfl)) Via.refl e328 (SA.ext O0.2) (g := (mkF m 70 #[rv a] [])) rfl (hb hby dj92m2_70)
  refine OGets.step st330 ?_
  refine OGets.step (fun _ => XS.ifYes X330.here hx rfl (pc0 := 73) (pc' := 110) rfl (hb hby dj92m2_73) rfl ((if0 _ _).trans (feq (by decide : ¬ ((1 : Int32) = (0 : Int32)))).2) (by decide) (by decide)) ?_
  refine OGets.retV X330 hx hlk Bd.returns (hb hby dj92m2_110) (Nat.le_of_ble_eq_true rfl) (Nat.le_of_ble_eq_true rfl) ?_
  exact ⟨rfl, rfl, e330⟩
theorem dj92m7_0 : decode jdk_92_method_7_code 0 = .ok (.aload_n 0, 1) := by decide +kernel
theorem dj92m7_1 : decode jdk_92_method_7_code 1 = .ok (.invokespecial 21, 3) := by decide +kernel
theorem dj92m7_4 : decode jdk_92_method_7_code 4 = .ok (.aload_n 0, 1) := by decide +kernel
theorem dj92m7_5 : decode jdk_92_method_7_code 5 = .ok (.iconst 0, 1) := by decide +kernel
theorem dj92m7_6 : decode jdk_92_method_7_code 6 = .ok (.putfield 7, 3) := by decide +kernel
theorem dj92m7_9 : decode jdk_92_method_7_code 9 = .ok (.aload_n 0, 1) := by decide +kernel
theorem dj92m7_10 : decode jdk_92_method_7_code 10 = .ok (.iconst 0, 1) := by decide +kernel
theorem dj92m7_11 : decode jdk_92_method_7_code 11 = .ok (.putfield 24, 3) := by decide +kernel
theorem dj92m7_14 : decode jdk_92_method_7_code 14 = .ok (.aload_n 0, 1) := by decide +kernel
theorem dj92m7_15 : decode jdk_92_method_7_code 15 = .ok (.aload_n 1, 1) := by decide +kernel
theorem dj92m7_16 : decode jdk_92_method_7_code 16 = .ok (.putfield 11, 3) := by decide +kernel
theorem dj92m7_19 : decode jdk_92_method_7_code 19 = .ok (.aload_n 0, 1) := by decide +kernel
theorem dj92m7_20 : decode jdk_92_method_7_code 20 = .ok (.aload_n 1, 1) := by decide +kernel
theorem dj92m7_21 : decode jdk_92_method_7_code 21 = .ok (.arraylength, 1) := by decide +kernel
theorem dj92m7_22 : decode jdk_92_method_7_code 22 = .ok (.putfield 7, 3) := by decide +kernel
theorem dj92m7_25 : decode jdk_92_method_7_code 25 = .ok (.aload_n 0, 1) := by decide +kernel
theorem dj92m7_26 : decode jdk_92_method_7_code 26 = .ok (.invokevirtual 56, 3) := by decide +kernel
theorem pd_8 : parseMethodDescriptor "()V" = some ⟨[], none⟩ := by decide +kernel
theorem dj92m7_29 : decode jdk_92_method_7_code 29 = .ok (.return_, 1) := by decide +kernel
theorem ef_bi0 (m : MethodId) (x0 : Addr) (x1 : Addr) : entryFrame m #[(.ref x0), (.ref x1)] 2 = mkF m 0 #[.val (.ref x0), .val (.ref x1)] [] := by first | (simp [entryFrame, mkF, argsToLocals, Value.category]; done) | rfl
def Q_bi0 (Z : State) (a : Addr) (d : Addr) (h0 : Heap) (n0 : Nat) (F : List (Addr × OObj)) (v : Option Value) (h : Heap) (L : List Loc) : Prop := v = none ∧ Fr n0 L ∧ OView Z n0 h (oS a [(.int (0 : Int32)), (.int (0 : Int32)), (.ref d)] :: oB d [] :: F) ∧ Old Z n0 h
set_option maxRecDepth 65536 in
set_option maxHeartbeats 40000000 in
theorem rm_bi0 (l : Launch) (Z : State) (a0 : Array Value) (hw : ∀ d ∈ tables_1, d.before a0 Z = true) (ws : List Jvm.Cond) (a : Addr) (d : Addr) (h0 : Heap) (n0 : Nat) (F : List (Addr × OObj)) (Z0 : n0 ≤ h0.size) (SA : Sta Z Z.heap "java/util/BitSet" "$assertionsDisabled" "Z" (.int (1 : Int32))) (V0 : OView Z n0 h0 (oS a [(.int (0 : Int32)), (.int (0 : Int32)), .null] :: oB d [] :: F)) (O0 : Old Z n0 h0) :
    MetFree l (⟨"java/util/BitSet", "<init>", "([J)V"⟩ : MethodName) (head1 (Jvm.Cond.code (⟨"java/util/BitSet", "<init>", "([J)V"⟩ : MethodName) jdk_92_method_7_code 2 none :: ws) ({ frames := 1, cells := 0, slots := 0, locals := 12 } : Room)) (fun a_ U => a_ = #[(.ref a), (.ref d)] ∧ Z.Warmed39 U.vm ∧ U.heap = h0) (fun _ _ _ _ _ => True) (fun _ U o U' => ∃ v L, o = .returned v ∧ Q_bi0 Z a d h0 n0 F v U'.heap L ∧ FrameEnd U o U' L ({ frames := 1, cells := 0, slots := 0, locals := 12 } : Room).cells ({ frames := 1, cells := 0, slots := 0, locals := 12 } : Room).slots) := by
  refine MetFree.of_bodySF (plainFor_of_name pn_7) hisR ?_
  intro p e s m args below meth c s₁ Bd hml0 hP hK
  obtain ⟨rfl, hZ, hh⟩ := hP
  have hx := Bd.exec
  have hby := Bd.bytes
  have hlk : meth.locks = false := Bd.notSynchronized
  have hml : c.maxLocals = 2 := hml0
  have hown : s.vm.findClass "java/util/BitSet" = some m.cls := findClass_of_methodNamed Bd.named
  have hnm := (name_of_methodNamed Bd.named Bd.method).1
  have X0 : Stand p l e ({ frames := 1, cells := 0, slots := 0, locals := 12 } : Room) s m #[(.ref a), (.ref d)] below meth c s₁ [] 0 0 := Stand.of_body Bd
  have e0 : s₁.heap = h0 := by rw [← hh, Bd.state]; rfl
  have N0 := Fr.nil n0
  show OGets p e below (OLeaves s (Q_bi0 Z a d h0 n0 F ) ({ frames := 1, cells := 0, slots := 0, locals := 12 } : Room).cells ({ frames := 1, cells := 0, slots := 0, locals := 12 } : Room).slots) _
  refine OGets.enter (ef_bi0 m a d) ?_
  show OGets p e below _ (s₁.setTop (mkF m 0 #[rv a, rv d] []))
  refine OGets.step (fun _ => XS.aloadN X0.here hx rfl (hb hby dj92m7_0) rfl rfl) ?_
  obtain ⟨T332, X332, e332, st332⟩ := initO X0 hx hZ hown (ow hw 92 rfl) (ow hw 8 rfl) (ow hw 9 rfl) e0 (g := (mkF m 1 #[rv a, rv d] [(.ref a)])) rfl (by rw [hml]; rfl) rfl (hb hby dj92m7_1) (by decide) (W := 0) (by show 2 * 0 + _ ≤ _; exact Nat.le_of_eq rfl) (by decide)
  refine OGets.step st332 ?_
  refine OGets.step (fun _ => XS.aloadN X332.here hx rfl (hb hby dj92m7_4) rfl rfl) ?_
  refine OGets.step (fun _ => XS.iconst X332.here hx rfl (hb hby dj92m7_5)) ?_
  obtain ⟨T333, h333, X333, e333, W333, st333⟩ := putF X332 hx hZ hown (host := "") (Or.inl (ow hw 93 rfl)) Via.refl e332 (V0.fld 0 rfl 0 rfl rfl) (V0.exa 0 rfl) (Or.inl (ow hw 94 rfl)) (ow hw 75 rfl) (ty := .int) (by decide) rfl rfl (g := (mkF m 6 #[rv a, rv d] [(.int (0 : Int32)), (.ref a)])) rfl rfl (hb hby dj92m7_6)
  have V333 : OView Z n0 h333 (oS a [(.int (0 : Int32)), (.int (0 : Int32)), .null] :: oB d [] :: F) := V0.putF 0 rfl 0 rfl W333
  have N333 := Fr.snoc X333 N0 (V0.old 0 rfl)
  have Z333 : n0 ≤ h333.size := by rw [W333.size]; exact Z0
  have O333 := O0.wr W333 (V0.old 0 rfl)
  refine OGets.step st333 ?_
  refine OGets.step (fun _ => XS.aloadN X333.here hx rfl (hb hby dj92m7_9) rfl rfl) ?_
  refine OGets.step (fun _ => XS.iconst X333.here hx rfl (hb hby dj92m7_10)) ?_
  obtain ⟨T334, h334, X334, e334, W334, st334⟩ := putFN X333 hx hZ hown (ow hw 95 rfl) Via.refl e333 (V333.fld 0 rfl 1 rfl rfl) (V333.exa 0 rfl) (Or.inl (ow hw 96 rfl)) (ow hw 75 rfl) (ty := .boolean) (v' := (.int (0 : Int32))) (by decide) rfl (by decide) (g := (mkF m 11 #[rv a, rv d] [(.int (0 : Int32)), (.ref a)])) rfl rfl (hb hby dj92m7_11)
  have V334 : OView Z n0 h334 (oS a [(.int (0 : Int32)), (.int (0 : Int32)), .null] :: oB d [] :: F) := V333.putF 0 rfl 1 rfl W334
  have N334 := Fr.snoc X334 N333 (V333.old 0 rfl)
  have Z334 : n0 ≤ h334.size := by rw [W334.size]; exact Z333
  have O334 := O333.wr W334 (V333.old 0 rfl)
  refine OGets.step st334 ?_
  refine OGets.step (fun _ => XS.aloadN X334.here hx rfl (hb hby dj92m7_14) rfl rfl) ?_
  refine OGets.step (fun _ => XS.aloadN X334.here hx rfl (hb hby dj92m7_15) rfl rfl) ?_
  obtain ⟨T335, h335, X335, e335, W335, st335⟩ := putF X334 hx hZ hown (host := "") (Or.inl (ow hw 97 rfl)) Via.refl e334 (V334.fld 0 rfl 2 rfl rfl) (V334.exa 0 rfl) (Or.inl (ow hw 98 rfl)) (ow hw 75 rfl) (ty := (.array .long)) (by decide) rfl rfl (g := (mkF m 16 #[rv a, rv d] [(.ref d), (.ref a)])) rfl rfl (hb hby dj92m7_16)
  have V335 : OView Z n0 h335 (oS a [(.int (0 : Int32)), (.int (0 : Int32)), (.ref d)] :: oB d [] :: F) := V334.putF 0 rfl 2 rfl W335
  have N335 := Fr.snoc X335 N334 (V334.old 0 rfl)
  have Z335 : n0 ≤ h335.size := by rw [W335.size]; exact Z334
  have O335 := O334.wr W335 (V334.old 0 rfl)
  refine OGets.step st335 ?_
  refine OGets.step (fun _ => XS.aloadN X335.here hx rfl (hb hby dj92m7_19) rfl rfl) ?_
  refine OGets.step (fun _ => XS.aloadN X335.here hx rfl (hb hby dj92m7_20) rfl rfl) ?_
  obtain ⟨cl336, Ar336, S336⟩ := V335.arr 1 rfl
  have ln336 : cl336.slots.size.toInt32 = (0 : Int32) := by rw [own_len S336]; rfl
  refine OGets.step (U' := T335.setTop (mkF m 22 #[rv a, rv d] [(.int (0 : Int32)), (.ref a)])) (fun t kt => ?_) ?_
  · refine X335.arraylength hx (by rw [e335]; exact Ar336.1) (State.isArrayOf_alike hZ.alike Ar336.2.1) (g := (mkF m 21 #[rv a, rv d] [(.ref d), (.ref a)])) rfl rfl (hb hby dj92m7_21) _ ?_
    rw [ln336]; exact kt
  obtain ⟨T337, h337, X337, e337, W337, st337⟩ := putF X335 hx hZ hown (host := "") (Or.inl (ow hw 93 rfl)) Via.refl e335 (V335.fld 0 rfl 0 rfl rfl) (V335.exa 0 rfl) (Or.inl (ow hw 94 rfl)) (ow hw 75 rfl) (ty := .int) (by decide) rfl rfl (g := (mkF m 22 #[rv a, rv d] [(.int (0 : Int32)), (.ref a)])) rfl rfl (hb hby dj92m7_22)
  have V337 : OView Z n0 h337 (oS a [(.int (0 : Int32)), (.int (0 : Int32)), (.ref d)] :: oB d [] :: F) := V335.putF 0 rfl 0 rfl W337
  have N337 := Fr.snoc X337 N335 (V335.old 0 rfl)
  have Z337 : n0 ≤ h337.size := by rw [W337.size]; exact Z335
  have O337 := O335.wr W337 (V335.old 0 rfl)
  refine OGets.step st337 ?_
  refine OGets.step (fun _ => XS.aloadN X337.here hx rfl (hb hby dj92m7_25) rfl rfl) ?_
  obtain ⟨cq338, q338, q338'⟩ := (V337.exa 0 rfl).cell
  obtain ⟨_, _, ⟨T338, L338, k338, n338⟩, -, X338, ⟨Lc338, hQ338, l338, y338, z338⟩, st338⟩ := X337.privateBack hx (y := (⟨"java/util/BitSet", "checkInvariants", "()V"⟩ : MethodName)) hown (mvT hZ (ow hw 99 rfl)) (mvT hZ (ow hw 100 rfl)) (mvT hZ (ow hw 102 rfl)) (Cond.privateMethod_at (mvP hZ (ow hw 101 rfl) (args := #[]))) (mvT hZ (ow hw 103 rfl)) (by decide) (backOf (W := 0) (rm_chk0 l Z a0 hw [] a d h337 n0 _ Z337 SA V337 O337) hZ (ow hw 103 rfl) (ow hw 72 rfl) (by decide) (by decide)) (g := (mkF m 26 #[rv a, rv d] [(.ref a)])) rfl (by rw [hml]; rfl) (Steps.refl _) (a := a) (by rw [e337]; exact q338) q338' (argsL := []) (rest := []) (lenOf pd_8 rfl) rfl (by show 2 * 0 + _ ≤ _; exact Nat.le_of_eq rfl) (hb hby dj92m7_26) (fun _ _ => ⟨rfl, e337, Nat.le_of_ble_eq_true rfl, Nat.le_of_ble_eq_true rfl⟩)
  dsimp only [Pt.U, Pt.locs, Pt.cells, Pt.slots] at X338 l338 y338 z338 st338 hQ338
  rw [l338, y338, z338] at X338
  obtain ⟨rfl, rfl, e338⟩ := hQ338
  have N338 := Fr.app N337 (Fr.nil n0)
  refine OGets.after st338 ?_
  refine OGets.retV X338 hx hlk Bd.returns (hb hby dj92m7_29) (Nat.le_of_ble_eq_true rfl) (Nat.le_of_ble_eq_true rfl) ?_
  rw [e338]
  exact ⟨rfl, N338, V337, O337⟩
theorem dj92m13_0 : decode jdk_92_method_13_code 0 = .ok (.aload_n 0, 1) := by decide +kernel
theorem dj92m13_1 : decode jdk_92_method_13_code 1 = .ok (.getfield 11, 3) := by decide +kernel
theorem dj92m13_4 : decode jdk_92_method_13_code 4 = .ok (.aload_n 0, 1) := by decide +kernel
theorem dj92m13_5 : decode jdk_92_method_13_code 5 = .ok (.getfield 7, 3) := by decide +kernel
theorem dj92m13_8 : decode jdk_92_method_13_code 8 = .ok (.invokestatic 59, 3) := by decide +kernel
theorem pd_9 : parseMethodDescriptor "([JI)[J" = some ⟨[(.array .long), .int], some (.array .long)⟩ := by decide +kernel
theorem dj92m13_11 : decode jdk_92_method_13_code 11 = .ok (.areturn, 1) := by decide +kernel
theorem ef_tla0 (m : MethodId) (x0 : Addr) : entryFrame m #[(.ref x0)] 1 = mkF m 0 #[.val (.ref x0)] [] := by first | (simp [entryFrame, mkF, argsToLocals, Value.category]; done) | rfl
def Q_tla0 (Z : State) (a : Addr) (d : Addr) (h0 : Heap) (n0 : Nat) (F : List (Addr × OObj)) (v : Option Value) (h : Heap) (L : List Loc) : Prop := ∃ e : Addr, v = some (.ref e) ∧ Fr n0 L ∧ OView Z n0 h (oB e [] :: oS a [(.int (0 : Int32)), (.int (0 : Int32)), (.ref d)] :: oB d [] :: F) ∧ Old Z n0 h
set_option maxRecDepth 65536 in
set_option maxHeartbeats 40000000 in
theorem rm_tla0 (l : Launch) (Z : State) (a0 : Array Value) (hw : ∀ d ∈ tables_1, d.before a0 Z = true) (ws : List Jvm.Cond) (a : Addr) (d : Addr) (h0 : Heap) (n0 : Nat) (F : List (Addr × OObj)) (Z0 : n0 ≤ h0.size) (V0 : OView Z n0 h0 (oS a [(.int (0 : Int32)), (.int (0 : Int32)), (.ref d)] :: oB d [] :: F)) (O0 : Old Z n0 h0) :
    MetFree l (⟨"java/util/BitSet", "toLongArray", "()[J"⟩ : MethodName) (head1 (Jvm.Cond.code (⟨"java/util/BitSet", "toLongArray", "()[J"⟩ : MethodName) jdk_92_method_13_code 1 (some (.array .long)) :: ws) ({ frames := 2, cells := 1, slots := 0, locals := 28 } : Room)) (fun a_ U => a_ = #[(.ref a)] ∧ Z.Warmed39 U.vm ∧ U.heap = h0) (fun _ _ _ _ _ => True) (fun _ U o U' => ∃ v L, o = .returned v ∧ Q_tla0 Z a d h0 n0 F v U'.heap L ∧ FrameEnd U o U' L ({ frames := 2, cells := 1, slots := 0, locals := 28 } : Room).cells ({ frames := 2, cells := 1, slots := 0, locals := 28 } : Room).slots) := by
  refine MetFree.of_bodySF (plainFor_of_name pn_7) hisR ?_
  intro p e s m args below meth c s₁ Bd hml0 hP hK
  obtain ⟨rfl, hZ, hh⟩ := hP
  have hx := Bd.exec
  have hby := Bd.bytes
  have hlk : meth.locks = false := Bd.notSynchronized
  have hml : c.maxLocals = 1 := hml0
  have hown : s.vm.findClass "java/util/BitSet" = some m.cls := findClass_of_methodNamed Bd.named
  have hnm := (name_of_methodNamed Bd.named Bd.method).1
  have X0 : Stand p l e ({ frames := 2, cells := 1, slots := 0, locals := 28 } : Room) s m #[(.ref a)] below meth c s₁ [] 0 0 := Stand.of_body Bd
  have e0 : s₁.heap = h0 := by rw [← hh, Bd.state]; rfl
  have N0 := Fr.nil n0
  show OGets p e below (OLeaves s (Q_tla0 Z a d h0 n0 F ) ({ frames := 2, cells := 1, slots := 0, locals := 28 } : Room).cells ({ frames := 2, cells := 1, slots := 0, locals := 28 } : Room).slots) _
  refine OGets.enter (ef_tla0 m a) ?_
  show OGets p e below _ (s₁.setTop (mkF m 0 #[rv a] []))
  refine OGets.step (fun _ => XS.aloadN X0.here hx rfl (hb hby dj92m13_0) rfl rfl) ?_
  obtain ⟨T339, X339, e339, st339⟩ := getF X0 hx hZ hown (host := "") (Or.inl (ow hw 97 rfl)) Via.refl e0 (V0.fld 0 rfl 2 rfl rfl) (g := (mkF m 1 #[rv a] [(.ref a)])) rfl rfl (hb hby dj92m13_1)
  refine OGets.step st339 ?_
  refine OGets.step (fun _ => XS.aloadN X339.here hx rfl (hb hby dj92m13_4) rfl rfl) ?_
  obtain ⟨T340, X340, e340, st340⟩ := getF X339 hx hZ hown (host := "") (Or.inl (ow hw 93 rfl)) Via.refl e339 (V0.fld 0 rfl 0 rfl rfl) (g := (mkF m 5 #[rv a] [(.ref a), (.ref d)])) rfl rfl (hb hby dj92m13_5)
  refine OGets.step st340 ?_
  have V341_ : OView Z _ h0 (oB d [] :: oS a [(.int (0 : Int32)), (.int (0 : Int32)), (.ref d)] :: F) := (V0.bring 1 rfl)
  obtain ⟨_, _, ⟨T341, L341, k341, n341⟩, -, X341, ⟨Lc341, hQ341, l341, y341, z341⟩, st341⟩ := Jvm.LawKit.callS X340 hx (y := (⟨"java/util/Arrays", "copyOf", "([JI)[J"⟩ : MethodName)) hown (mvT hZ (ow hw 76 rfl)) (mvT hZ (ow hw 77 rfl)) (mvT hZ (ow hw 38 rfl)) (mvT hZ (ow hw 78 rfl)) (by decide) (backOf (W := 0) (rm_co00 l Z a0 hw [] d h0 n0 _ Z0  V341_ O0) hZ (ow hw 78 rfl) (ow hw 38 rfl) (by decide) (by decide)) (g := (mkF m 8 #[rv a] [(.int (0 : Int32)), (.ref d)])) rfl (by rw [hml]; rfl) (argsL := [(.ref d), (.int (0 : Int32))]) (rest := []) (lenOf pd_9 rfl) rfl (by show 2 * 0 + _ ≤ _; exact Nat.le_of_eq rfl) (hb hby dj92m13_8) (fun _ _ => ⟨rfl, e340, Nat.le_of_ble_eq_true rfl, Nat.le_of_ble_eq_true rfl⟩)
  dsimp only [Pt.U, Pt.locs, Pt.cells, Pt.slots] at X341 l341 y341 z341 st341 hQ341
  rw [l341, y341, z341] at X341
  obtain ⟨e341, rfl, N341q, V341, O341q⟩ := hQ341
  have N341 := Fr.app N0 N341q
  have V341v : OView Z n0 T341.heap (oB e341 [] :: oB d [] :: oS a [(.int (0 : Int32)), (.int (0 : Int32)), (.ref d)] :: F) := V341
  have Z341 : n0 ≤ T341.heap.size := V341v.big 0 rfl
  refine OGets.step st341 ?_
  refine OGets.retA X341 hx hlk (t := (.array .long)) Bd.returns rfl rfl rfl (hb hby dj92m13_11) (Nat.le_of_ble_eq_true rfl) (Nat.le_of_ble_eq_true rfl) ?_
  have Vp342 : OView Z _ T341.heap (oB e341 [] :: oS a [(.int (0 : Int32)), (.int (0 : Int32)), (.ref d)] :: oB d [] :: F) := ((V341v.bring 2 rfl).bring 1 rfl)
  exact ⟨e341, rfl, N341, Vp342, O341q⟩
theorem ef_chk1 (m : MethodId) (x0 : Addr) : entryFrame m #[(.ref x0)] 1 = mkF m 0 #[.val (.ref x0)] [] := by first | (simp [entryFrame, mkF, argsToLocals, Value.category]; done) | rfl
def Q_chk1 (Z : State) (a : Addr) (d : Addr) (h0 : Heap) (n0 : Nat) (F : List (Addr × OObj)) (v : Option Value) (h : Heap) (L : List Loc) : Prop := v = none ∧ L = [] ∧ h = h0
set_option maxRecDepth 65536 in
set_option maxHeartbeats 40000000 in
theorem rm_chk1 (l : Launch) (Z : State) (a0 : Array Value) (hw : ∀ d ∈ tables_1, d.before a0 Z = true) (ws : List Jvm.Cond) (a : Addr) (d : Addr) (h0 : Heap) (n0 : Nat) (F : List (Addr × OObj)) (Z0 : n0 ≤ h0.size) (SA : Sta Z Z.heap "java/util/BitSet" "$assertionsDisabled" "Z" (.int (1 : Int32))) (V0 : OView Z n0 h0 (oS a [(.int (1 : Int32)), (.int (0 : Int32)), (.ref d)] :: F)) (O0 : Old Z n0 h0) :
    MetFree l (⟨"java/util/BitSet", "checkInvariants", "()V"⟩ : MethodName) (head1 (Jvm.Cond.code (⟨"java/util/BitSet", "checkInvariants", "()V"⟩ : MethodName) jdk_92_method_2_code 1 none :: ws) ({ frames := 0, cells := 0, slots := 0, locals := 0 } : Room)) (fun a_ U => a_ = #[(.ref a)] ∧ Z.Warmed39 U.vm ∧ U.heap = h0) (fun _ _ _ _ _ => True) (fun _ U o U' => ∃ v L, o = .returned v ∧ Q_chk1 Z a d h0 n0 F v U'.heap L ∧ FrameEnd U o U' L ({ frames := 0, cells := 0, slots := 0, locals := 0 } : Room).cells ({ frames := 0, cells := 0, slots := 0, locals := 0 } : Room).slots) := by
  refine MetFree.of_bodySF (plainFor_of_name pn_7) hisR ?_
  intro p e s m args below meth c s₁ Bd hml0 hP hK
  obtain ⟨rfl, hZ, hh⟩ := hP
  have hx := Bd.exec
  have hby := Bd.bytes
  have hlk : meth.locks = false := Bd.notSynchronized
  have hml : c.maxLocals = 1 := hml0
  have hown : s.vm.findClass "java/util/BitSet" = some m.cls := findClass_of_methodNamed Bd.named
  have hnm := (name_of_methodNamed Bd.named Bd.method).1
  have X0 : Stand p l e ({ frames := 0, cells := 0, slots := 0, locals := 0 } : Room) s m #[(.ref a)] below meth c s₁ [] 0 0 := Stand.of_body Bd
  have e0 : s₁.heap = h0 := by rw [← hh, Bd.state]; rfl
  have N0 := Fr.nil n0
  show OGets p e below (OLeaves s (Q_chk1 Z a d h0 n0 F ) ({ frames := 0, cells := 0, slots := 0, locals := 0 } : Room).cells ({ frames := 0, cells := 0, slots := 0, locals := 0 } : Room).slots) _
  refine OGets.enter (ef_chk1 m a) ?_
  show OGets p e below _ (s₁.setTop (mkF m 0 #[rv a] []))
  obtain ⟨T343, X343, e343, st343⟩ := getS2 X0 hx hZ hown (host := "") (Or.inl (ow hw 104 rfl)) Via.refl e0 (SA.ext O0.2) (g := (mkF m 0 #[rv a] [])) rfl (hb hby dj92m2_0)
  refine OGets.step st343 ?_
  refine OGets.step (fun _ => XS.ifYes X343.here hx rfl (pc0 := 3) (pc' := 37) rfl (hb hby dj92m2_3) rfl ((if0 _ _).trans (feq (by decide : ¬ ((1 : Int32) = (0 : Int32)))).2) (by decide) (by decide)) ?_
  obtain ⟨T345, X345, e345, st345⟩ := getS2 X343 hx hZ hown (host := "") (Or.inl (ow hw 104 rfl)) Via.refl e343 (SA.ext O0.2) (g := (mkF m 37 #[rv a] [])) rfl (hb hby dj92m2_37)
  refine OGets.step st345 ?_
  refine OGets.step (fun _ => XS.ifYes X345.here hx rfl (pc0 := 40) (pc' := 70) rfl (hb hby dj92m2_40) rfl ((if0 _ _).trans (feq (by decide : ¬ ((1 : Int32) = (0 : Int32)))).2) (by decide) (by decide)) ?_
  obtain ⟨T347, X347, e347, st347⟩ := getS2 X345 hx hZ hown (host := "") (Or.inl (ow hw 104 rfl)) Via.refl e345 (SA.ext O0.2) (g := (mkF m 70 #[rv a] [])) rfl (hb hby dj92m2_70)
  refine OGets.step st347 ?_
  refine OGets.step (fun _ => XS.ifYes X347.here hx rfl (pc0 := 73) (pc' := 110) rfl (hb hby dj92m2_73) rfl ((if0 _ _).trans (feq (by decide : ¬ ((1 : Int32) = (0 : Int32)))).2) (by decide) (by decide)) ?_
  refine OGets.retV X347 hx hlk Bd.returns (hb hby dj92m2_110) (Nat.le_of_ble_eq_true rfl) (Nat.le_of_ble_eq_true rfl) ?_
  exact ⟨rfl, rfl, e347⟩
theorem ef_bi1 (m : MethodId) (x0 : Addr) (x1 : Addr) : entryFrame m #[(.ref x0), (.ref x1)] 2 = mkF m 0 #[.val (.ref x0), .val (.ref x1)] [] := by first | (simp [entryFrame, mkF, argsToLocals, Value.category]; done) | rfl
def Q_bi1 (Z : State) (a : Addr) (d : Addr) (x0 : Int64) (h0 : Heap) (n0 : Nat) (F : List (Addr × OObj)) (v : Option Value) (h : Heap) (L : List Loc) : Prop := v = none ∧ Fr n0 L ∧ OView Z n0 h (oS a [(.int (1 : Int32)), (.int (0 : Int32)), (.ref d)] :: oB d [x0] :: F) ∧ Old Z n0 h
set_option maxRecDepth 65536 in
set_option maxHeartbeats 40000000 in
theorem rm_bi1 (l : Launch) (Z : State) (a0 : Array Value) (hw : ∀ d ∈ tables_1, d.before a0 Z = true) (ws : List Jvm.Cond) (a : Addr) (d : Addr) (x0 : Int64) (h0 : Heap) (n0 : Nat) (F : List (Addr × OObj)) (Z0 : n0 ≤ h0.size) (SA : Sta Z Z.heap "java/util/BitSet" "$assertionsDisabled" "Z" (.int (1 : Int32))) (V0 : OView Z n0 h0 (oS a [(.int (0 : Int32)), (.int (0 : Int32)), .null] :: oB d [x0] :: F)) (O0 : Old Z n0 h0) :
    MetFree l (⟨"java/util/BitSet", "<init>", "([J)V"⟩ : MethodName) (head1 (Jvm.Cond.code (⟨"java/util/BitSet", "<init>", "([J)V"⟩ : MethodName) jdk_92_method_7_code 2 none :: ws) ({ frames := 1, cells := 0, slots := 0, locals := 12 } : Room)) (fun a_ U => a_ = #[(.ref a), (.ref d)] ∧ Z.Warmed39 U.vm ∧ U.heap = h0) (fun _ _ _ _ _ => True) (fun _ U o U' => ∃ v L, o = .returned v ∧ Q_bi1 Z a d x0 h0 n0 F v U'.heap L ∧ FrameEnd U o U' L ({ frames := 1, cells := 0, slots := 0, locals := 12 } : Room).cells ({ frames := 1, cells := 0, slots := 0, locals := 12 } : Room).slots) := by
  refine MetFree.of_bodySF (plainFor_of_name pn_7) hisR ?_
  intro p e s m args below meth c s₁ Bd hml0 hP hK
  obtain ⟨rfl, hZ, hh⟩ := hP
  have hx := Bd.exec
  have hby := Bd.bytes
  have hlk : meth.locks = false := Bd.notSynchronized
  have hml : c.maxLocals = 2 := hml0
  have hown : s.vm.findClass "java/util/BitSet" = some m.cls := findClass_of_methodNamed Bd.named
  have hnm := (name_of_methodNamed Bd.named Bd.method).1
  have X0 : Stand p l e ({ frames := 1, cells := 0, slots := 0, locals := 12 } : Room) s m #[(.ref a), (.ref d)] below meth c s₁ [] 0 0 := Stand.of_body Bd
  have e0 : s₁.heap = h0 := by rw [← hh, Bd.state]; rfl
  have N0 := Fr.nil n0
  show OGets p e below (OLeaves s (Q_bi1 Z a d x0 h0 n0 F ) ({ frames := 1, cells := 0, slots := 0, locals := 12 } : Room).cells ({ frames := 1, cells := 0, slots := 0, locals := 12 } : Room).slots) _
  refine OGets.enter (ef_bi1 m a d) ?_
  show OGets p e below _ (s₁.setTop (mkF m 0 #[rv a, rv d] []))
  refine OGets.step (fun _ => XS.aloadN X0.here hx rfl (hb hby dj92m7_0) rfl rfl) ?_
  obtain ⟨T349, X349, e349, st349⟩ := initO X0 hx hZ hown (ow hw 92 rfl) (ow hw 8 rfl) (ow hw 9 rfl) e0 (g := (mkF m 1 #[rv a, rv d] [(.ref a)])) rfl (by rw [hml]; rfl) rfl (hb hby dj92m7_1) (by decide) (W := 0) (by show 2 * 0 + _ ≤ _; exact Nat.le_of_eq rfl) (by decide)
  refine OGets.step st349 ?_
  refine OGets.step (fun _ => XS.aloadN X349.here hx rfl (hb hby dj92m7_4) rfl rfl) ?_
  refine OGets.step (fun _ => XS.iconst X349.here hx rfl (hb hby dj92m7_5)) ?_
  obtain ⟨T350, h350, X350, e350, W350, st350⟩ := putF X349 hx hZ hown (host := "") (Or.inl (ow hw 93 rfl)) Via.refl e349 (V0.fld 0 rfl 0 rfl rfl) (V0.exa 0 rfl) (Or.inl (ow hw 94 rfl)) (ow hw 75 rfl) (ty := .int) (by decide) rfl rfl (g := (mkF m 6 #[rv a, rv d] [(.int (0 : Int32)), (.ref a)])) rfl rfl (hb hby dj92m7_6)
  have V350 : OView Z n0 h350 (oS a [(.int (0 : Int32)), (.int (0 : Int32)), .null] :: oB d [x0] :: F) := V0.putF 0 rfl 0 rfl W350
  have N350 := Fr.snoc X350 N0 (V0.old 0 rfl)
  have Z350 : n0 ≤ h350.size := by rw [W350.size]; exact Z0
  have O350 := O0.wr W350 (V0.old 0 rfl)
  refine OGets.step st350 ?_
  refine OGets.step (fun _ => XS.aloadN X350.here hx rfl (hb hby dj92m7_9) rfl rfl) ?_
  refine OGets.step (fun _ => XS.iconst X350.here hx rfl (hb hby dj92m7_10)) ?_
  obtain ⟨T351, h351, X351, e351, W351, st351⟩ := putFN X350 hx hZ hown (ow hw 95 rfl) Via.refl e350 (V350.fld 0 rfl 1 rfl rfl) (V350.exa 0 rfl) (Or.inl (ow hw 96 rfl)) (ow hw 75 rfl) (ty := .boolean) (v' := (.int (0 : Int32))) (by decide) rfl (by decide) (g := (mkF m 11 #[rv a, rv d] [(.int (0 : Int32)), (.ref a)])) rfl rfl (hb hby dj92m7_11)
  have V351 : OView Z n0 h351 (oS a [(.int (0 : Int32)), (.int (0 : Int32)), .null] :: oB d [x0] :: F) := V350.putF 0 rfl 1 rfl W351
  have N351 := Fr.snoc X351 N350 (V350.old 0 rfl)
  have Z351 : n0 ≤ h351.size := by rw [W351.size]; exact Z350
  have O351 := O350.wr W351 (V350.old 0 rfl)
  refine OGets.step st351 ?_
  refine OGets.step (fun _ => XS.aloadN X351.here hx rfl (hb hby dj92m7_14) rfl rfl) ?_
  refine OGets.step (fun _ => XS.aloadN X351.here hx rfl (hb hby dj92m7_15) rfl rfl) ?_
  obtain ⟨T352, h352, X352, e352, W352, st352⟩ := putF X351 hx hZ hown (host := "") (Or.inl (ow hw 97 rfl)) Via.refl e351 (V351.fld 0 rfl 2 rfl rfl) (V351.exa 0 rfl) (Or.inl (ow hw 98 rfl)) (ow hw 75 rfl) (ty := (.array .long)) (by decide) rfl rfl (g := (mkF m 16 #[rv a, rv d] [(.ref d), (.ref a)])) rfl rfl (hb hby dj92m7_16)
  have V352 : OView Z n0 h352 (oS a [(.int (0 : Int32)), (.int (0 : Int32)), (.ref d)] :: oB d [x0] :: F) := V351.putF 0 rfl 2 rfl W352
  have N352 := Fr.snoc X352 N351 (V351.old 0 rfl)
  have Z352 : n0 ≤ h352.size := by rw [W352.size]; exact Z351
  have O352 := O351.wr W352 (V351.old 0 rfl)
  refine OGets.step st352 ?_
  refine OGets.step (fun _ => XS.aloadN X352.here hx rfl (hb hby dj92m7_19) rfl rfl) ?_
  refine OGets.step (fun _ => XS.aloadN X352.here hx rfl (hb hby dj92m7_20) rfl rfl) ?_
  obtain ⟨cl353, Ar353, S353⟩ := V352.arr 1 rfl
  have ln353 : cl353.slots.size.toInt32 = (1 : Int32) := by rw [own_len S353]; rfl
  refine OGets.step (U' := T352.setTop (mkF m 22 #[rv a, rv d] [(.int (1 : Int32)), (.ref a)])) (fun t kt => ?_) ?_
  · refine X352.arraylength hx (by rw [e352]; exact Ar353.1) (State.isArrayOf_alike hZ.alike Ar353.2.1) (g := (mkF m 21 #[rv a, rv d] [(.ref d), (.ref a)])) rfl rfl (hb hby dj92m7_21) _ ?_
    rw [ln353]; exact kt
  obtain ⟨T354, h354, X354, e354, W354, st354⟩ := putF X352 hx hZ hown (host := "") (Or.inl (ow hw 93 rfl)) Via.refl e352 (V352.fld 0 rfl 0 rfl rfl) (V352.exa 0 rfl) (Or.inl (ow hw 94 rfl)) (ow hw 75 rfl) (ty := .int) (by decide) rfl rfl (g := (mkF m 22 #[rv a, rv d] [(.int (1 : Int32)), (.ref a)])) rfl rfl (hb hby dj92m7_22)
  have V354 : OView Z n0 h354 (oS a [(.int (1 : Int32)), (.int (0 : Int32)), (.ref d)] :: oB d [x0] :: F) := V352.putF 0 rfl 0 rfl W354
  have N354 := Fr.snoc X354 N352 (V352.old 0 rfl)
  have Z354 : n0 ≤ h354.size := by rw [W354.size]; exact Z352
  have O354 := O352.wr W354 (V352.old 0 rfl)
  refine OGets.step st354 ?_
  refine OGets.step (fun _ => XS.aloadN X354.here hx rfl (hb hby dj92m7_25) rfl rfl) ?_
  obtain ⟨cq355, q355, q355'⟩ := (V354.exa 0 rfl).cell
  obtain ⟨_, _, ⟨T355, L355, k355, n355⟩, -, X355, ⟨Lc355, hQ355, l355, y355, z355⟩, st355⟩ := X354.privateBack hx (y := (⟨"java/util/BitSet", "checkInvariants", "()V"⟩ : MethodName)) hown (mvT hZ (ow hw 99 rfl)) (mvT hZ (ow hw 100 rfl)) (mvT hZ (ow hw 102 rfl)) (Cond.privateMethod_at (mvP hZ (ow hw 101 rfl) (args := #[]))) (mvT hZ (ow hw 103 rfl)) (by decide) (backOf (W := 0) (rm_chk1 l Z a0 hw [] a d h354 n0 _ Z354 SA V354 O354) hZ (ow hw 103 rfl) (ow hw 72 rfl) (by decide) (by decide)) (g := (mkF m 26 #[rv a, rv d] [(.ref a)])) rfl (by rw [hml]; rfl) (Steps.refl _) (a := a) (by rw [e354]; exact q355) q355' (argsL := []) (rest := []) (lenOf pd_8 rfl) rfl (by show 2 * 0 + _ ≤ _; exact Nat.le_of_eq rfl) (hb hby dj92m7_26) (fun _ _ => ⟨rfl, e354, Nat.le_of_ble_eq_true rfl, Nat.le_of_ble_eq_true rfl⟩)
  dsimp only [Pt.U, Pt.locs, Pt.cells, Pt.slots] at X355 l355 y355 z355 st355 hQ355
  rw [l355, y355, z355] at X355
  obtain ⟨rfl, rfl, e355⟩ := hQ355
  have N355 := Fr.app N354 (Fr.nil n0)
  refine OGets.after st355 ?_
  refine OGets.retV X355 hx hlk Bd.returns (hb hby dj92m7_29) (Nat.le_of_ble_eq_true rfl) (Nat.le_of_ble_eq_true rfl) ?_
  rw [e355]
  exact ⟨rfl, N355, V354, O354⟩
theorem ef_tla1 (m : MethodId) (x0 : Addr) : entryFrame m #[(.ref x0)] 1 = mkF m 0 #[.val (.ref x0)] [] := by first | (simp [entryFrame, mkF, argsToLocals, Value.category]; done) | rfl
def Q_tla1 (Z : State) (a : Addr) (d : Addr) (x0 : Int64) (h0 : Heap) (n0 : Nat) (F : List (Addr × OObj)) (v : Option Value) (h : Heap) (L : List Loc) : Prop := ∃ e : Addr, v = some (.ref e) ∧ Fr n0 L ∧ OView Z n0 h (oB e [x0] :: oS a [(.int (1 : Int32)), (.int (0 : Int32)), (.ref d)] :: oB d [x0] :: F) ∧ Old Z n0 h
set_option maxRecDepth 65536 in
set_option maxHeartbeats 40000000 in
theorem rm_tla1 (l : Launch) (Z : State) (a0 : Array Value) (hw : ∀ d ∈ tables_1, d.before a0 Z = true) (ws : List Jvm.Cond) (a : Addr) (d : Addr) (x0 : Int64) (h0 : Heap) (n0 : Nat) (F : List (Addr × OObj)) (Z0 : n0 ≤ h0.size) (V0 : OView Z n0 h0 (oS a [(.int (1 : Int32)), (.int (0 : Int32)), (.ref d)] :: oB d [x0] :: F)) (O0 : Old Z n0 h0) :
    MetFree l (⟨"java/util/BitSet", "toLongArray", "()[J"⟩ : MethodName) (head1 (Jvm.Cond.code (⟨"java/util/BitSet", "toLongArray", "()[J"⟩ : MethodName) jdk_92_method_13_code 1 (some (.array .long)) :: ws) ({ frames := 2, cells := 1, slots := 1, locals := 28 } : Room)) (fun a_ U => a_ = #[(.ref a)] ∧ Z.Warmed39 U.vm ∧ U.heap = h0) (fun _ _ _ _ _ => True) (fun _ U o U' => ∃ v L, o = .returned v ∧ Q_tla1 Z a d x0 h0 n0 F v U'.heap L ∧ FrameEnd U o U' L ({ frames := 2, cells := 1, slots := 1, locals := 28 } : Room).cells ({ frames := 2, cells := 1, slots := 1, locals := 28 } : Room).slots) := by
  refine MetFree.of_bodySF (plainFor_of_name pn_7) hisR ?_
  intro p e s m args below meth c s₁ Bd hml0 hP hK
  obtain ⟨rfl, hZ, hh⟩ := hP
  have hx := Bd.exec
  have hby := Bd.bytes
  have hlk : meth.locks = false := Bd.notSynchronized
  have hml : c.maxLocals = 1 := hml0
  have hown : s.vm.findClass "java/util/BitSet" = some m.cls := findClass_of_methodNamed Bd.named
  have hnm := (name_of_methodNamed Bd.named Bd.method).1
  have X0 : Stand p l e ({ frames := 2, cells := 1, slots := 1, locals := 28 } : Room) s m #[(.ref a)] below meth c s₁ [] 0 0 := Stand.of_body Bd
  have e0 : s₁.heap = h0 := by rw [← hh, Bd.state]; rfl
  have N0 := Fr.nil n0
  show OGets p e below (OLeaves s (Q_tla1 Z a d x0 h0 n0 F ) ({ frames := 2, cells := 1, slots := 1, locals := 28 } : Room).cells ({ frames := 2, cells := 1, slots := 1, locals := 28 } : Room).slots) _
  refine OGets.enter (ef_tla1 m a) ?_
  show OGets p e below _ (s₁.setTop (mkF m 0 #[rv a] []))
  refine OGets.step (fun _ => XS.aloadN X0.here hx rfl (hb hby dj92m13_0) rfl rfl) ?_
  obtain ⟨T356, X356, e356, st356⟩ := getF X0 hx hZ hown (host := "") (Or.inl (ow hw 97 rfl)) Via.refl e0 (V0.fld 0 rfl 2 rfl rfl) (g := (mkF m 1 #[rv a] [(.ref a)])) rfl rfl (hb hby dj92m13_1)
  refine OGets.step st356 ?_
  refine OGets.step (fun _ => XS.aloadN X356.here hx rfl (hb hby dj92m13_4) rfl rfl) ?_
  obtain ⟨T357, X357, e357, st357⟩ := getF X356 hx hZ hown (host := "") (Or.inl (ow hw 93 rfl)) Via.refl e356 (V0.fld 0 rfl 0 rfl rfl) (g := (mkF m 5 #[rv a] [(.ref a), (.ref d)])) rfl rfl (hb hby dj92m13_5)
  refine OGets.step st357 ?_
  have V358_ : OView Z _ h0 (oB d [x0] :: oS a [(.int (1 : Int32)), (.int (0 : Int32)), (.ref d)] :: F) := (V0.bring 1 rfl)
  obtain ⟨_, _, ⟨T358, L358, k358, n358⟩, -, X358, ⟨Lc358, hQ358, l358, y358, z358⟩, st358⟩ := Jvm.LawKit.callS X357 hx (y := (⟨"java/util/Arrays", "copyOf", "([JI)[J"⟩ : MethodName)) hown (mvT hZ (ow hw 76 rfl)) (mvT hZ (ow hw 77 rfl)) (mvT hZ (ow hw 38 rfl)) (mvT hZ (ow hw 78 rfl)) (by decide) (backOf (W := 0) (rm_co11 l Z a0 hw [] d x0 h0 n0 _ Z0  V358_ O0) hZ (ow hw 78 rfl) (ow hw 38 rfl) (by decide) (by decide)) (g := (mkF m 8 #[rv a] [(.int (1 : Int32)), (.ref d)])) rfl (by rw [hml]; rfl) (argsL := [(.ref d), (.int (1 : Int32))]) (rest := []) (lenOf pd_9 rfl) rfl (by show 2 * 0 + _ ≤ _; exact Nat.le_of_eq rfl) (hb hby dj92m13_8) (fun _ _ => ⟨rfl, e357, Nat.le_of_ble_eq_true rfl, Nat.le_of_ble_eq_true rfl⟩)
  dsimp only [Pt.U, Pt.locs, Pt.cells, Pt.slots] at X358 l358 y358 z358 st358 hQ358
  rw [l358, y358, z358] at X358
  obtain ⟨e358, rfl, N358q, V358, O358q⟩ := hQ358
  have N358 := Fr.app N0 N358q
  have V358v : OView Z n0 T358.heap (oB e358 [x0] :: oB d [x0] :: oS a [(.int (1 : Int32)), (.int (0 : Int32)), (.ref d)] :: F) := V358
  have Z358 : n0 ≤ T358.heap.size := V358v.big 0 rfl
  refine OGets.step st358 ?_
  refine OGets.retA X358 hx hlk (t := (.array .long)) Bd.returns rfl rfl rfl (hb hby dj92m13_11) (Nat.le_of_ble_eq_true rfl) (Nat.le_of_ble_eq_true rfl) ?_
  have Vp359 : OView Z _ T358.heap (oB e358 [x0] :: oS a [(.int (1 : Int32)), (.int (0 : Int32)), (.ref d)] :: oB d [x0] :: F) := ((V358v.bring 2 rfl).bring 1 rfl)
  exact ⟨e358, rfl, N358, Vp359, O358q⟩
theorem ef_chk2 (m : MethodId) (x0 : Addr) : entryFrame m #[(.ref x0)] 1 = mkF m 0 #[.val (.ref x0)] [] := by first | (simp [entryFrame, mkF, argsToLocals, Value.category]; done) | rfl
def Q_chk2 (Z : State) (a : Addr) (d : Addr) (h0 : Heap) (n0 : Nat) (F : List (Addr × OObj)) (v : Option Value) (h : Heap) (L : List Loc) : Prop := v = none ∧ L = [] ∧ h = h0
set_option maxRecDepth 65536 in
set_option maxHeartbeats 40000000 in
theorem rm_chk2 (l : Launch) (Z : State) (a0 : Array Value) (hw : ∀ d ∈ tables_1, d.before a0 Z = true) (ws : List Jvm.Cond) (a : Addr) (d : Addr) (h0 : Heap) (n0 : Nat) (F : List (Addr × OObj)) (Z0 : n0 ≤ h0.size) (SA : Sta Z Z.heap "java/util/BitSet" "$assertionsDisabled" "Z" (.int (1 : Int32))) (V0 : OView Z n0 h0 (oS a [(.int (2 : Int32)), (.int (0 : Int32)), (.ref d)] :: F)) (O0 : Old Z n0 h0) :
    MetFree l (⟨"java/util/BitSet", "checkInvariants", "()V"⟩ : MethodName) (head1 (Jvm.Cond.code (⟨"java/util/BitSet", "checkInvariants", "()V"⟩ : MethodName) jdk_92_method_2_code 1 none :: ws) ({ frames := 0, cells := 0, slots := 0, locals := 0 } : Room)) (fun a_ U => a_ = #[(.ref a)] ∧ Z.Warmed39 U.vm ∧ U.heap = h0) (fun _ _ _ _ _ => True) (fun _ U o U' => ∃ v L, o = .returned v ∧ Q_chk2 Z a d h0 n0 F v U'.heap L ∧ FrameEnd U o U' L ({ frames := 0, cells := 0, slots := 0, locals := 0 } : Room).cells ({ frames := 0, cells := 0, slots := 0, locals := 0 } : Room).slots) := by
  refine MetFree.of_bodySF (plainFor_of_name pn_7) hisR ?_
  intro p e s m args below meth c s₁ Bd hml0 hP hK
  obtain ⟨rfl, hZ, hh⟩ := hP
  have hx := Bd.exec
  have hby := Bd.bytes
  have hlk : meth.locks = false := Bd.notSynchronized
  have hml : c.maxLocals = 1 := hml0
  have hown : s.vm.findClass "java/util/BitSet" = some m.cls := findClass_of_methodNamed Bd.named
  have hnm := (name_of_methodNamed Bd.named Bd.method).1
  have X0 : Stand p l e ({ frames := 0, cells := 0, slots := 0, locals := 0 } : Room) s m #[(.ref a)] below meth c s₁ [] 0 0 := Stand.of_body Bd
  have e0 : s₁.heap = h0 := by rw [← hh, Bd.state]; rfl
  have N0 := Fr.nil n0
  show OGets p e below (OLeaves s (Q_chk2 Z a d h0 n0 F ) ({ frames := 0, cells := 0, slots := 0, locals := 0 } : Room).cells ({ frames := 0, cells := 0, slots := 0, locals := 0 } : Room).slots) _
  refine OGets.enter (ef_chk2 m a) ?_
  show OGets p e below _ (s₁.setTop (mkF m 0 #[rv a] []))
  obtain ⟨T360, X360, e360, st360⟩ := getS2 X0 hx hZ hown (host := "") (Or.inl (ow hw 104 rfl)) Via.refl e0 (SA.ext O0.2) (g := (mkF m 0 #[rv a] [])) rfl (hb hby dj92m2_0)
  refine OGets.step st360 ?_
  refine OGets.step (fun _ => XS.ifYes X360.here hx rfl (pc0 := 3) (pc' := 37) rfl (hb hby dj92m2_3) rfl ((if0 _ _).trans (feq (by decide : ¬ ((1 : Int32) = (0 : Int32)))).2) (by decide) (by decide)) ?_
  obtain ⟨T362, X362, e362, st362⟩ := getS2 X360 hx hZ hown (host := "") (Or.inl (ow hw 104 rfl)) Via.refl e360 (SA.ext O0.2) (g := (mkF m 37 #[rv a] [])) rfl (hb hby dj92m2_37)
  refine OGets.step st362 ?_
  refine OGets.step (fun _ => XS.ifYes X362.here hx rfl (pc0 := 40) (pc' := 70) rfl (hb hby dj92m2_40) rfl ((if0 _ _).trans (feq (by decide : ¬ ((1 : Int32) = (0 : Int32)))).2) (by decide) (by decide)) ?_
  obtain ⟨T364, X364, e364, st364⟩ := getS2 X362 hx hZ hown (host := "") (Or.inl (ow hw 104 rfl)) Via.refl e362 (SA.ext O0.2) (g := (mkF m 70 #[rv a] [])) rfl (hb hby dj92m2_70)
  refine OGets.step st364 ?_
  refine OGets.step (fun _ => XS.ifYes X364.here hx rfl (pc0 := 73) (pc' := 110) rfl (hb hby dj92m2_73) rfl ((if0 _ _).trans (feq (by decide : ¬ ((1 : Int32) = (0 : Int32)))).2) (by decide) (by decide)) ?_
  refine OGets.retV X364 hx hlk Bd.returns (hb hby dj92m2_110) (Nat.le_of_ble_eq_true rfl) (Nat.le_of_ble_eq_true rfl) ?_
  exact ⟨rfl, rfl, e364⟩
theorem ef_bi2 (m : MethodId) (x0 : Addr) (x1 : Addr) : entryFrame m #[(.ref x0), (.ref x1)] 2 = mkF m 0 #[.val (.ref x0), .val (.ref x1)] [] := by first | (simp [entryFrame, mkF, argsToLocals, Value.category]; done) | rfl
def Q_bi2 (Z : State) (a : Addr) (d : Addr) (x0 : Int64) (x1 : Int64) (h0 : Heap) (n0 : Nat) (F : List (Addr × OObj)) (v : Option Value) (h : Heap) (L : List Loc) : Prop := v = none ∧ Fr n0 L ∧ OView Z n0 h (oS a [(.int (2 : Int32)), (.int (0 : Int32)), (.ref d)] :: oB d [x0, x1] :: F) ∧ Old Z n0 h
set_option maxRecDepth 65536 in
set_option maxHeartbeats 40000000 in
theorem rm_bi2 (l : Launch) (Z : State) (a0 : Array Value) (hw : ∀ d ∈ tables_1, d.before a0 Z = true) (ws : List Jvm.Cond) (a : Addr) (d : Addr) (x0 : Int64) (x1 : Int64) (h0 : Heap) (n0 : Nat) (F : List (Addr × OObj)) (Z0 : n0 ≤ h0.size) (SA : Sta Z Z.heap "java/util/BitSet" "$assertionsDisabled" "Z" (.int (1 : Int32))) (V0 : OView Z n0 h0 (oS a [(.int (0 : Int32)), (.int (0 : Int32)), .null] :: oB d [x0, x1] :: F)) (O0 : Old Z n0 h0) :
    MetFree l (⟨"java/util/BitSet", "<init>", "([J)V"⟩ : MethodName) (head1 (Jvm.Cond.code (⟨"java/util/BitSet", "<init>", "([J)V"⟩ : MethodName) jdk_92_method_7_code 2 none :: ws) ({ frames := 1, cells := 0, slots := 0, locals := 12 } : Room)) (fun a_ U => a_ = #[(.ref a), (.ref d)] ∧ Z.Warmed39 U.vm ∧ U.heap = h0) (fun _ _ _ _ _ => True) (fun _ U o U' => ∃ v L, o = .returned v ∧ Q_bi2 Z a d x0 x1 h0 n0 F v U'.heap L ∧ FrameEnd U o U' L ({ frames := 1, cells := 0, slots := 0, locals := 12 } : Room).cells ({ frames := 1, cells := 0, slots := 0, locals := 12 } : Room).slots) := by
  refine MetFree.of_bodySF (plainFor_of_name pn_7) hisR ?_
  intro p e s m args below meth c s₁ Bd hml0 hP hK
  obtain ⟨rfl, hZ, hh⟩ := hP
  have hx := Bd.exec
  have hby := Bd.bytes
  have hlk : meth.locks = false := Bd.notSynchronized
  have hml : c.maxLocals = 2 := hml0
  have hown : s.vm.findClass "java/util/BitSet" = some m.cls := findClass_of_methodNamed Bd.named
  have hnm := (name_of_methodNamed Bd.named Bd.method).1
  have X0 : Stand p l e ({ frames := 1, cells := 0, slots := 0, locals := 12 } : Room) s m #[(.ref a), (.ref d)] below meth c s₁ [] 0 0 := Stand.of_body Bd
  have e0 : s₁.heap = h0 := by rw [← hh, Bd.state]; rfl
  have N0 := Fr.nil n0
  show OGets p e below (OLeaves s (Q_bi2 Z a d x0 x1 h0 n0 F ) ({ frames := 1, cells := 0, slots := 0, locals := 12 } : Room).cells ({ frames := 1, cells := 0, slots := 0, locals := 12 } : Room).slots) _
  refine OGets.enter (ef_bi2 m a d) ?_
  show OGets p e below _ (s₁.setTop (mkF m 0 #[rv a, rv d] []))
  refine OGets.step (fun _ => XS.aloadN X0.here hx rfl (hb hby dj92m7_0) rfl rfl) ?_
  obtain ⟨T366, X366, e366, st366⟩ := initO X0 hx hZ hown (ow hw 92 rfl) (ow hw 8 rfl) (ow hw 9 rfl) e0 (g := (mkF m 1 #[rv a, rv d] [(.ref a)])) rfl (by rw [hml]; rfl) rfl (hb hby dj92m7_1) (by decide) (W := 0) (by show 2 * 0 + _ ≤ _; exact Nat.le_of_eq rfl) (by decide)
  refine OGets.step st366 ?_
  refine OGets.step (fun _ => XS.aloadN X366.here hx rfl (hb hby dj92m7_4) rfl rfl) ?_
  refine OGets.step (fun _ => XS.iconst X366.here hx rfl (hb hby dj92m7_5)) ?_
  obtain ⟨T367, h367, X367, e367, W367, st367⟩ := putF X366 hx hZ hown (host := "") (Or.inl (ow hw 93 rfl)) Via.refl e366 (V0.fld 0 rfl 0 rfl rfl) (V0.exa 0 rfl) (Or.inl (ow hw 94 rfl)) (ow hw 75 rfl) (ty := .int) (by decide) rfl rfl (g := (mkF m 6 #[rv a, rv d] [(.int (0 : Int32)), (.ref a)])) rfl rfl (hb hby dj92m7_6)
  have V367 : OView Z n0 h367 (oS a [(.int (0 : Int32)), (.int (0 : Int32)), .null] :: oB d [x0, x1] :: F) := V0.putF 0 rfl 0 rfl W367
  have N367 := Fr.snoc X367 N0 (V0.old 0 rfl)
  have Z367 : n0 ≤ h367.size := by rw [W367.size]; exact Z0
  have O367 := O0.wr W367 (V0.old 0 rfl)
  refine OGets.step st367 ?_
  refine OGets.step (fun _ => XS.aloadN X367.here hx rfl (hb hby dj92m7_9) rfl rfl) ?_
  refine OGets.step (fun _ => XS.iconst X367.here hx rfl (hb hby dj92m7_10)) ?_
  obtain ⟨T368, h368, X368, e368, W368, st368⟩ := putFN X367 hx hZ hown (ow hw 95 rfl) Via.refl e367 (V367.fld 0 rfl 1 rfl rfl) (V367.exa 0 rfl) (Or.inl (ow hw 96 rfl)) (ow hw 75 rfl) (ty := .boolean) (v' := (.int (0 : Int32))) (by decide) rfl (by decide) (g := (mkF m 11 #[rv a, rv d] [(.int (0 : Int32)), (.ref a)])) rfl rfl (hb hby dj92m7_11)
  have V368 : OView Z n0 h368 (oS a [(.int (0 : Int32)), (.int (0 : Int32)), .null] :: oB d [x0, x1] :: F) := V367.putF 0 rfl 1 rfl W368
  have N368 := Fr.snoc X368 N367 (V367.old 0 rfl)
  have Z368 : n0 ≤ h368.size := by rw [W368.size]; exact Z367
  have O368 := O367.wr W368 (V367.old 0 rfl)
  refine OGets.step st368 ?_
  refine OGets.step (fun _ => XS.aloadN X368.here hx rfl (hb hby dj92m7_14) rfl rfl) ?_
  refine OGets.step (fun _ => XS.aloadN X368.here hx rfl (hb hby dj92m7_15) rfl rfl) ?_
  obtain ⟨T369, h369, X369, e369, W369, st369⟩ := putF X368 hx hZ hown (host := "") (Or.inl (ow hw 97 rfl)) Via.refl e368 (V368.fld 0 rfl 2 rfl rfl) (V368.exa 0 rfl) (Or.inl (ow hw 98 rfl)) (ow hw 75 rfl) (ty := (.array .long)) (by decide) rfl rfl (g := (mkF m 16 #[rv a, rv d] [(.ref d), (.ref a)])) rfl rfl (hb hby dj92m7_16)
  have V369 : OView Z n0 h369 (oS a [(.int (0 : Int32)), (.int (0 : Int32)), (.ref d)] :: oB d [x0, x1] :: F) := V368.putF 0 rfl 2 rfl W369
  have N369 := Fr.snoc X369 N368 (V368.old 0 rfl)
  have Z369 : n0 ≤ h369.size := by rw [W369.size]; exact Z368
  have O369 := O368.wr W369 (V368.old 0 rfl)
  refine OGets.step st369 ?_
  refine OGets.step (fun _ => XS.aloadN X369.here hx rfl (hb hby dj92m7_19) rfl rfl) ?_
  refine OGets.step (fun _ => XS.aloadN X369.here hx rfl (hb hby dj92m7_20) rfl rfl) ?_
  obtain ⟨cl370, Ar370, S370⟩ := V369.arr 1 rfl
  have ln370 : cl370.slots.size.toInt32 = (2 : Int32) := by rw [own_len S370]; rfl
  refine OGets.step (U' := T369.setTop (mkF m 22 #[rv a, rv d] [(.int (2 : Int32)), (.ref a)])) (fun t kt => ?_) ?_
  · refine X369.arraylength hx (by rw [e369]; exact Ar370.1) (State.isArrayOf_alike hZ.alike Ar370.2.1) (g := (mkF m 21 #[rv a, rv d] [(.ref d), (.ref a)])) rfl rfl (hb hby dj92m7_21) _ ?_
    rw [ln370]; exact kt
  obtain ⟨T371, h371, X371, e371, W371, st371⟩ := putF X369 hx hZ hown (host := "") (Or.inl (ow hw 93 rfl)) Via.refl e369 (V369.fld 0 rfl 0 rfl rfl) (V369.exa 0 rfl) (Or.inl (ow hw 94 rfl)) (ow hw 75 rfl) (ty := .int) (by decide) rfl rfl (g := (mkF m 22 #[rv a, rv d] [(.int (2 : Int32)), (.ref a)])) rfl rfl (hb hby dj92m7_22)
  have V371 : OView Z n0 h371 (oS a [(.int (2 : Int32)), (.int (0 : Int32)), (.ref d)] :: oB d [x0, x1] :: F) := V369.putF 0 rfl 0 rfl W371
  have N371 := Fr.snoc X371 N369 (V369.old 0 rfl)
  have Z371 : n0 ≤ h371.size := by rw [W371.size]; exact Z369
  have O371 := O369.wr W371 (V369.old 0 rfl)
  refine OGets.step st371 ?_
  refine OGets.step (fun _ => XS.aloadN X371.here hx rfl (hb hby dj92m7_25) rfl rfl) ?_
  obtain ⟨cq372, q372, q372'⟩ := (V371.exa 0 rfl).cell
  obtain ⟨_, _, ⟨T372, L372, k372, n372⟩, -, X372, ⟨Lc372, hQ372, l372, y372, z372⟩, st372⟩ := X371.privateBack hx (y := (⟨"java/util/BitSet", "checkInvariants", "()V"⟩ : MethodName)) hown (mvT hZ (ow hw 99 rfl)) (mvT hZ (ow hw 100 rfl)) (mvT hZ (ow hw 102 rfl)) (Cond.privateMethod_at (mvP hZ (ow hw 101 rfl) (args := #[]))) (mvT hZ (ow hw 103 rfl)) (by decide) (backOf (W := 0) (rm_chk2 l Z a0 hw [] a d h371 n0 _ Z371 SA V371 O371) hZ (ow hw 103 rfl) (ow hw 72 rfl) (by decide) (by decide)) (g := (mkF m 26 #[rv a, rv d] [(.ref a)])) rfl (by rw [hml]; rfl) (Steps.refl _) (a := a) (by rw [e371]; exact q372) q372' (argsL := []) (rest := []) (lenOf pd_8 rfl) rfl (by show 2 * 0 + _ ≤ _; exact Nat.le_of_eq rfl) (hb hby dj92m7_26) (fun _ _ => ⟨rfl, e371, Nat.le_of_ble_eq_true rfl, Nat.le_of_ble_eq_true rfl⟩)
  dsimp only [Pt.U, Pt.locs, Pt.cells, Pt.slots] at X372 l372 y372 z372 st372 hQ372
  rw [l372, y372, z372] at X372
  obtain ⟨rfl, rfl, e372⟩ := hQ372
  have N372 := Fr.app N371 (Fr.nil n0)
  refine OGets.after st372 ?_
  refine OGets.retV X372 hx hlk Bd.returns (hb hby dj92m7_29) (Nat.le_of_ble_eq_true rfl) (Nat.le_of_ble_eq_true rfl) ?_
  rw [e372]
  exact ⟨rfl, N372, V371, O371⟩
theorem ef_tla2 (m : MethodId) (x0 : Addr) : entryFrame m #[(.ref x0)] 1 = mkF m 0 #[.val (.ref x0)] [] := by first | (simp [entryFrame, mkF, argsToLocals, Value.category]; done) | rfl
def Q_tla2 (Z : State) (a : Addr) (d : Addr) (x0 : Int64) (x1 : Int64) (h0 : Heap) (n0 : Nat) (F : List (Addr × OObj)) (v : Option Value) (h : Heap) (L : List Loc) : Prop := ∃ e : Addr, v = some (.ref e) ∧ Fr n0 L ∧ OView Z n0 h (oB e [x0, x1] :: oS a [(.int (2 : Int32)), (.int (0 : Int32)), (.ref d)] :: oB d [x0, x1] :: F) ∧ Old Z n0 h
set_option maxRecDepth 65536 in
set_option maxHeartbeats 40000000 in
theorem rm_tla2 (l : Launch) (Z : State) (a0 : Array Value) (hw : ∀ d ∈ tables_1, d.before a0 Z = true) (ws : List Jvm.Cond) (a : Addr) (d : Addr) (x0 : Int64) (x1 : Int64) (h0 : Heap) (n0 : Nat) (F : List (Addr × OObj)) (Z0 : n0 ≤ h0.size) (V0 : OView Z n0 h0 (oS a [(.int (2 : Int32)), (.int (0 : Int32)), (.ref d)] :: oB d [x0, x1] :: F)) (O0 : Old Z n0 h0) :
    MetFree l (⟨"java/util/BitSet", "toLongArray", "()[J"⟩ : MethodName) (head1 (Jvm.Cond.code (⟨"java/util/BitSet", "toLongArray", "()[J"⟩ : MethodName) jdk_92_method_13_code 1 (some (.array .long)) :: ws) ({ frames := 2, cells := 1, slots := 2, locals := 28 } : Room)) (fun a_ U => a_ = #[(.ref a)] ∧ Z.Warmed39 U.vm ∧ U.heap = h0) (fun _ _ _ _ _ => True) (fun _ U o U' => ∃ v L, o = .returned v ∧ Q_tla2 Z a d x0 x1 h0 n0 F v U'.heap L ∧ FrameEnd U o U' L ({ frames := 2, cells := 1, slots := 2, locals := 28 } : Room).cells ({ frames := 2, cells := 1, slots := 2, locals := 28 } : Room).slots) := by
  refine MetFree.of_bodySF (plainFor_of_name pn_7) hisR ?_
  intro p e s m args below meth c s₁ Bd hml0 hP hK
  obtain ⟨rfl, hZ, hh⟩ := hP
  have hx := Bd.exec
  have hby := Bd.bytes
  have hlk : meth.locks = false := Bd.notSynchronized
  have hml : c.maxLocals = 1 := hml0
  have hown : s.vm.findClass "java/util/BitSet" = some m.cls := findClass_of_methodNamed Bd.named
  have hnm := (name_of_methodNamed Bd.named Bd.method).1
  have X0 : Stand p l e ({ frames := 2, cells := 1, slots := 2, locals := 28 } : Room) s m #[(.ref a)] below meth c s₁ [] 0 0 := Stand.of_body Bd
  have e0 : s₁.heap = h0 := by rw [← hh, Bd.state]; rfl
  have N0 := Fr.nil n0
  show OGets p e below (OLeaves s (Q_tla2 Z a d x0 x1 h0 n0 F ) ({ frames := 2, cells := 1, slots := 2, locals := 28 } : Room).cells ({ frames := 2, cells := 1, slots := 2, locals := 28 } : Room).slots) _
  refine OGets.enter (ef_tla2 m a) ?_
  show OGets p e below _ (s₁.setTop (mkF m 0 #[rv a] []))
  refine OGets.step (fun _ => XS.aloadN X0.here hx rfl (hb hby dj92m13_0) rfl rfl) ?_
  obtain ⟨T373, X373, e373, st373⟩ := getF X0 hx hZ hown (host := "") (Or.inl (ow hw 97 rfl)) Via.refl e0 (V0.fld 0 rfl 2 rfl rfl) (g := (mkF m 1 #[rv a] [(.ref a)])) rfl rfl (hb hby dj92m13_1)
  refine OGets.step st373 ?_
  refine OGets.step (fun _ => XS.aloadN X373.here hx rfl (hb hby dj92m13_4) rfl rfl) ?_
  obtain ⟨T374, X374, e374, st374⟩ := getF X373 hx hZ hown (host := "") (Or.inl (ow hw 93 rfl)) Via.refl e373 (V0.fld 0 rfl 0 rfl rfl) (g := (mkF m 5 #[rv a] [(.ref a), (.ref d)])) rfl rfl (hb hby dj92m13_5)
  refine OGets.step st374 ?_
  have V375_ : OView Z _ h0 (oB d [x0, x1] :: oS a [(.int (2 : Int32)), (.int (0 : Int32)), (.ref d)] :: F) := (V0.bring 1 rfl)
  obtain ⟨_, _, ⟨T375, L375, k375, n375⟩, -, X375, ⟨Lc375, hQ375, l375, y375, z375⟩, st375⟩ := Jvm.LawKit.callS X374 hx (y := (⟨"java/util/Arrays", "copyOf", "([JI)[J"⟩ : MethodName)) hown (mvT hZ (ow hw 76 rfl)) (mvT hZ (ow hw 77 rfl)) (mvT hZ (ow hw 38 rfl)) (mvT hZ (ow hw 78 rfl)) (by decide) (backOf (W := 0) (rm_co22 l Z a0 hw [] d x0 x1 h0 n0 _ Z0  V375_ O0) hZ (ow hw 78 rfl) (ow hw 38 rfl) (by decide) (by decide)) (g := (mkF m 8 #[rv a] [(.int (2 : Int32)), (.ref d)])) rfl (by rw [hml]; rfl) (argsL := [(.ref d), (.int (2 : Int32))]) (rest := []) (lenOf pd_9 rfl) rfl (by show 2 * 0 + _ ≤ _; exact Nat.le_of_eq rfl) (hb hby dj92m13_8) (fun _ _ => ⟨rfl, e374, Nat.le_of_ble_eq_true rfl, Nat.le_of_ble_eq_true rfl⟩)
  dsimp only [Pt.U, Pt.locs, Pt.cells, Pt.slots] at X375 l375 y375 z375 st375 hQ375
  rw [l375, y375, z375] at X375
  obtain ⟨e375, rfl, N375q, V375, O375q⟩ := hQ375
  have N375 := Fr.app N0 N375q
  have V375v : OView Z n0 T375.heap (oB e375 [x0, x1] :: oB d [x0, x1] :: oS a [(.int (2 : Int32)), (.int (0 : Int32)), (.ref d)] :: F) := V375
  have Z375 : n0 ≤ T375.heap.size := V375v.big 0 rfl
  refine OGets.step st375 ?_
  refine OGets.retA X375 hx hlk (t := (.array .long)) Bd.returns rfl rfl rfl (hb hby dj92m13_11) (Nat.le_of_ble_eq_true rfl) (Nat.le_of_ble_eq_true rfl) ?_
  have Vp376 : OView Z _ T375.heap (oB e375 [x0, x1] :: oS a [(.int (2 : Int32)), (.int (0 : Int32)), (.ref d)] :: oB d [x0, x1] :: F) := ((V375v.bring 2 rfl).bring 1 rfl)
  exact ⟨e375, rfl, N375, Vp376, O375q⟩
theorem dj92m8_0 : decode jdk_92_method_8_code 0 = .ok (.aload_n 0, 1) := by decide +kernel
theorem dj92m8_1 : decode jdk_92_method_8_code 1 = .ok (.arraylength, 1) := by decide +kernel
theorem dj92m8_2 : decode jdk_92_method_8_code 2 = .ok (.istore_n 1, 1) := by decide +kernel
theorem dj92m8_3 : decode jdk_92_method_8_code 3 = .ok (.iload_n 1, 1) := by decide +kernel
theorem dj92m8_4 : decode jdk_92_method_8_code 4 = .ok (.ifCond .le 19, 3) := by decide +kernel
theorem dj92m8_7 : decode jdk_92_method_8_code 7 = .ok (.aload_n 0, 1) := by decide +kernel
theorem dj92m8_8 : decode jdk_92_method_8_code 8 = .ok (.iload_n 1, 1) := by decide +kernel
theorem dj92m8_9 : decode jdk_92_method_8_code 9 = .ok (.iconst 1, 1) := by decide +kernel
theorem dj92m8_10 : decode jdk_92_method_8_code 10 = .ok (.isub, 1) := by decide +kernel
theorem dj92m8_11 : decode jdk_92_method_8_code 11 = .ok (.laload, 1) := by decide +kernel
theorem dj92m8_12 : decode jdk_92_method_8_code 12 = .ok (.lconst 0, 1) := by decide +kernel
theorem dj92m8_13 : decode jdk_92_method_8_code 13 = .ok (.lcmp, 1) := by decide +kernel
theorem dj92m8_14 : decode jdk_92_method_8_code 14 = .ok (.ifCond .ne 9, 3) := by decide +kernel
theorem dj92m8_17 : decode jdk_92_method_8_code 17 = .ok (.iinc 1 (-1), 3) := by decide +kernel
theorem dj92m8_20 : decode jdk_92_method_8_code 20 = .ok (.goto (-17), 3) := by decide +kernel
theorem dj92m8_23 : decode jdk_92_method_8_code 23 = .ok (.new 1, 3) := by decide +kernel
theorem dj92m8_26 : decode jdk_92_method_8_code 26 = .ok (.dup, 1) := by decide +kernel
theorem dj92m8_27 : decode jdk_92_method_8_code 27 = .ok (.aload_n 0, 1) := by decide +kernel
theorem dj92m8_28 : decode jdk_92_method_8_code 28 = .ok (.iload_n 1, 1) := by decide +kernel
theorem dj92m8_29 : decode jdk_92_method_8_code 29 = .ok (.invokestatic 59, 3) := by decide +kernel
theorem dj92m8_32 : decode jdk_92_method_8_code 32 = .ok (.invokespecial 65, 3) := by decide +kernel
theorem pd_10 : parseMethodDescriptor "([J)V" = some ⟨[(.array .long)], none⟩ := by decide +kernel
theorem dj92m8_35 : decode jdk_92_method_8_code 35 = .ok (.areturn, 1) := by decide +kernel
theorem ef_vo10 (m : MethodId) (x0 : Addr) : entryFrame m #[(.ref x0)] 2 = mkF m 0 #[.val (.ref x0), .unset] [] := by first | (simp [entryFrame, mkF, argsToLocals, Value.category]; done) | rfl
def Q_vo10 (Z : State) (d : Addr) (x0 : Int64) (h0 : Heap) (n0 : Nat) (F : List (Addr × OObj)) (v : Option Value) (h : Heap) (L : List Loc) : Prop := ∃ a e : Addr, v = some (.ref a) ∧ Fr n0 L ∧ OView Z n0 h (oS a [(.int (0 : Int32)), (.int (0 : Int32)), (.ref e)] :: oB e [] :: F) ∧ Old Z n0 h
set_option maxRecDepth 65536 in
set_option maxHeartbeats 40000000 in
theorem rm_vo10 (l : Launch) (Z : State) (a0 : Array Value) (hw : ∀ d ∈ tables_1, d.before a0 Z = true) (ws : List Jvm.Cond) (d : Addr) (x0 : Int64) (h0 : Heap) (n0 : Nat) (F : List (Addr × OObj)) (Z0 : n0 ≤ h0.size) (SA : Sta Z Z.heap "java/util/BitSet" "$assertionsDisabled" "Z" (.int (1 : Int32))) (z0 : x0 = (0 : Int64)) (V0 : OView Z n0 h0 (oB d [x0] :: F)) (O0 : Old Z n0 h0) :
    MetFree l (⟨"java/util/BitSet", "valueOf", "([J)Ljava/util/BitSet;"⟩ : MethodName) (head1 (Jvm.Cond.code (⟨"java/util/BitSet", "valueOf", "([J)Ljava/util/BitSet;"⟩ : MethodName) jdk_92_method_8_code 2 (some (.object "java/util/BitSet")) :: ws) ({ frames := 2, cells := 2, slots := 3, locals := 34 } : Room)) (fun a_ U => a_ = #[(.ref d)] ∧ Z.Warmed39 U.vm ∧ U.heap = h0) (fun _ _ _ _ _ => True) (fun _ U o U' => ∃ v L, o = .returned v ∧ Q_vo10 Z d x0 h0 n0 F v U'.heap L ∧ FrameEnd U o U' L ({ frames := 2, cells := 2, slots := 3, locals := 34 } : Room).cells ({ frames := 2, cells := 2, slots := 3, locals := 34 } : Room).slots) := by
  refine MetFree.of_bodySF (plainFor_of_name pn_7) hisR ?_
  intro p e s m args below meth c s₁ Bd hml0 hP hK
  obtain ⟨rfl, hZ, hh⟩ := hP
  have hx := Bd.exec
  have hby := Bd.bytes
  have hlk : meth.locks = false := Bd.notSynchronized
  have hml : c.maxLocals = 2 := hml0
  have hown : s.vm.findClass "java/util/BitSet" = some m.cls := findClass_of_methodNamed Bd.named
  have hnm := (name_of_methodNamed Bd.named Bd.method).1
  have X0 : Stand p l e ({ frames := 2, cells := 2, slots := 3, locals := 34 } : Room) s m #[(.ref d)] below meth c s₁ [] 0 0 := Stand.of_body Bd
  have e0 : s₁.heap = h0 := by rw [← hh, Bd.state]; rfl
  have N0 := Fr.nil n0
  show OGets p e below (OLeaves s (Q_vo10 Z d x0 h0 n0 F ) ({ frames := 2, cells := 2, slots := 3, locals := 34 } : Room).cells ({ frames := 2, cells := 2, slots := 3, locals := 34 } : Room).slots) _
  refine OGets.enter (ef_vo10 m d) ?_
  show OGets p e below _ (s₁.setTop (mkF m 0 #[rv d, uv] []))
  refine OGets.step (fun _ => XS.aloadN X0.here hx rfl (hb hby dj92m8_0) rfl rfl) ?_
  obtain ⟨cl377, Ar377, S377⟩ := V0.arr 0 rfl
  have ln377 : cl377.slots.size.toInt32 = (1 : Int32) := by rw [own_len S377]; rfl
  refine OGets.step (U' := s₁.setTop (mkF m 2 #[rv d, uv] [(.int (1 : Int32))])) (fun t kt => ?_) ?_
  · refine X0.arraylength hx (by rw [e0]; exact Ar377.1) (State.isArrayOf_alike hZ.alike Ar377.2.1) (g := (mkF m 1 #[rv d, uv] [(.ref d)])) rfl rfl (hb hby dj92m8_1) _ ?_
    rw [ln377]; exact kt
  refine OGets.step (fun _ => XS.istoreN X0.here hx rfl (hb hby dj92m8_2) rfl (l' := #[rv d, iv (1 : Int32)]) rfl) ?_
  refine OGets.step (fun _ => XS.iloadN X0.here hx rfl (hb hby dj92m8_3) rfl) ?_
  refine OGets.step (fun _ => XS.ifNo X0.here hx rfl (hb hby dj92m8_4) rfl ((if0 _ _).trans (tlt (by decide : (0 : Int32) < (1 : Int32))).2.2.2)) ?_
  refine OGets.step (fun _ => XS.aloadN X0.here hx rfl (hb hby dj92m8_7) rfl rfl) ?_
  show OGets p e below _ (s₁.setTop (mkF m 8 #[rv d, iv (1 : Int32)] [(.ref d)]))
  refine OGets.step (fun _ => XS.iloadN X0.here hx rfl (hb hby dj92m8_8) rfl) ?_
  refine OGets.step (fun _ => XS.iconst X0.here hx rfl (hb hby dj92m8_9)) ?_
  refine OGets.step (fun _ => XS.isub X0.here hx rfl (hb hby dj92m8_10) rfl) ?_
  show OGets p e below _ (s₁.setTop (mkF m 11 #[rv d, iv (1 : Int32)] [(.int (0 : Int32)), (.ref d)]))
  obtain ⟨cl379, Ar379, S379⟩ := V0.arr 0 rfl
  refine OGets.step (fun _ => X0.laload hx (j := (0 : Int32)) (v := (.long x0)) (by rw [e0]; exact Ar379.1) (State.isArrayOf_alike hZ.alike Ar379.2.1) Ar379.2.2 (own_inb S379 0 (by decide) (Nat.le_of_ble_eq_true rfl)) (own_get S379 0 (by decide) rfl) (g := (mkF m 11 #[rv d, iv (1 : Int32)] [(.int (0 : Int32)), (.ref d)])) rfl rfl (hb hby dj92m8_11) _) ?_
  refine OGets.step (fun _ => XS.lconst X0.here hx rfl (hb hby dj92m8_12)) ?_
  refine OGets.step (fun _ => XS.lcmp X0.here hx rfl (hb hby dj92m8_13) rfl) ?_
  refine OGets.step (fun _ => XS.ifNo X0.here hx rfl (hb hby dj92m8_14) rfl ((if0 _ _).trans (teq ((lw_eq _ _).mpr (z0 : x0 = (0 : Int64)))).2)) ?_
  refine OGets.step (fun _ => XS.iinc X0.here hx rfl (hb hby dj92m8_17) rfl (l' := #[rv d, iv (0 : Int32)]) rfl) ?_
  refine OGets.step (fun _ => XS.goto X0.here hx rfl (pc0 := 20) (pc' := 3) rfl (hb hby dj92m8_20) (by decide) (by decide)) ?_
  show OGets p e below _ (s₁.setTop (mkF m 3 #[rv d, iv (0 : Int32)] []))
  refine OGets.step (fun _ => XS.iloadN X0.here hx rfl (hb hby dj92m8_3) rfl) ?_
  refine OGets.step (fun _ => XS.ifYes X0.here hx rfl (pc0 := 4) (pc' := 23) rfl (hb hby dj92m8_4) rfl ((if0 _ _).trans (flt (by decide : ¬ ((0 : Int32) < (0 : Int32)))).2.2.2) (by decide) (by decide)) ?_
  obtain ⟨T382, h382, X382, e382, E382, A382, D382, -, st382⟩ := newO X0 hx hZ hown (ow hw 74 rfl) (ow hw 75 rfl) (ow hw 72 rfl) e0 (g := (mkF m 23 #[rv d, iv (0 : Int32)] [])) rfl (hb hby dj92m8_23) (by decide) (by decide)
  have V382' := V0.newObj (ns := ns_BitSet) (vs := [(.int (0 : Int32)), (.int (0 : Int32)), .null]) Z0 E382 A382 D382 (lay_ns_BitSet hw) (by decide) (by decide)
  have Z382 : n0 ≤ h382.size := Nat.le_trans Z0 E382.1
  obtain ⟨b382, g382⟩ : ∃ z, z = h0.size := ⟨_, rfl⟩
  rw [← g382] at V382' st382
  have V382 : OView Z n0 h382 (oS b382 [(.int (0 : Int32)), (.int (0 : Int32)), .null] :: oB d [x0] :: F) := V382'
  have O382 := O0.ext E382
  refine OGets.step st382 ?_
  refine OGets.step (fun _ => XS.dup X382.here hx rfl (hb hby dj92m8_26) rfl rfl) ?_
  refine OGets.step (fun _ => XS.aloadN X382.here hx rfl (hb hby dj92m8_27) rfl rfl) ?_
  refine OGets.step (fun _ => XS.iloadN X382.here hx rfl (hb hby dj92m8_28) rfl) ?_
  have V383_ : OView Z _ h382 (oB d [x0] :: oS b382 [(.int (0 : Int32)), (.int (0 : Int32)), .null] :: F) := (V382.bring 1 rfl)
  obtain ⟨_, _, ⟨T383, L383, k383, n383⟩, -, X383, ⟨Lc383, hQ383, l383, y383, z383⟩, st383⟩ := Jvm.LawKit.callS X382 hx (y := (⟨"java/util/Arrays", "copyOf", "([JI)[J"⟩ : MethodName)) hown (mvT hZ (ow hw 76 rfl)) (mvT hZ (ow hw 77 rfl)) (mvT hZ (ow hw 38 rfl)) (mvT hZ (ow hw 78 rfl)) (by decide) (backOf (W := 2) (rm_co10 l Z a0 hw [] d x0 h382 n0 _ Z382  V383_ O382) hZ (ow hw 78 rfl) (ow hw 38 rfl) (by decide) (by decide)) (g := (mkF m 29 #[rv d, iv (0 : Int32)] [(.int (0 : Int32)), (.ref d), (.ref b382), (.ref b382)])) rfl (by rw [hml]; rfl) (argsL := [(.ref d), (.int (0 : Int32))]) (rest := [(.ref b382), (.ref b382)]) (lenOf pd_9 rfl) rfl (by show 2 * 0 + _ ≤ _; exact Nat.le_of_eq rfl) (hb hby dj92m8_29) (fun _ _ => ⟨rfl, e382, Nat.le_of_ble_eq_true rfl, Nat.le_of_ble_eq_true rfl⟩)
  dsimp only [Pt.U, Pt.locs, Pt.cells, Pt.slots] at X383 l383 y383 z383 st383 hQ383
  rw [l383, y383, z383] at X383
  obtain ⟨e383, rfl, N383q, V383, O383q⟩ := hQ383
  have N383 := Fr.app N0 N383q
  have V383v : OView Z n0 T383.heap (oB e383 [] :: oB d [x0] :: oS b382 [(.int (0 : Int32)), (.int (0 : Int32)), .null] :: F) := V383
  have Z383 : n0 ≤ T383.heap.size := V383v.big 0 rfl
  refine OGets.step st383 ?_
  have V384_ : OView Z _ T383.heap (oS b382 [(.int (0 : Int32)), (.int (0 : Int32)), .null] :: oB e383 [] :: oB d [x0] :: F) := (V383v.bring 2 rfl)
  obtain ⟨_, _, ⟨T384, L384, k384, n384⟩, -, X384, ⟨Lc384, hQ384, l384, y384, z384⟩, st384⟩ := X383.specialBack hx (y := (⟨"java/util/BitSet", "<init>", "([J)V"⟩ : MethodName)) rfl hown (mvT hZ (ow hw 88 rfl)) (mvT hZ (ow hw 89 rfl)) (mvT hZ (ow hw 91 rfl)) (by decide) (backOf (W := 1) (rm_bi0 l Z a0 hw [] b382 e383 T383.heap n0 _ Z383 SA V384_ O383q) hZ (ow hw 91 rfl) (ow hw 72 rfl) (by decide) (by decide)) (g := (mkF m 32 #[rv d, iv (0 : Int32)] [(.ref e383), (.ref b382), (.ref b382)])) rfl (by rw [hml]; rfl) (Steps.refl _) (a := b382) (argsL := [(.ref e383)]) (rest := [(.ref b382)]) (lenOf pd_10 rfl) rfl (by show 2 * 0 + _ ≤ _; exact Nat.le_of_eq rfl) (hb hby dj92m8_32) (fun _ _ => ⟨rfl, rfl, Nat.le_of_ble_eq_true rfl, Nat.le_of_ble_eq_true rfl⟩)
  dsimp only [Pt.U, Pt.locs, Pt.cells, Pt.slots] at X384 l384 y384 z384 st384 hQ384
  rw [l384, y384, z384] at X384
  obtain ⟨rfl, N384q, V384, O384q⟩ := hQ384
  have N384 := Fr.app N383 N384q
  have V384v : OView Z n0 T384.heap (oS b382 [(.int (0 : Int32)), (.int (0 : Int32)), (.ref e383)] :: oB e383 [] :: oB d [x0] :: F) := V384
  have Z384 : n0 ≤ T384.heap.size := V384v.big 0 rfl
  refine OGets.after st384 ?_
  refine OGets.retA X384 hx hlk (t := (.object "java/util/BitSet")) Bd.returns rfl rfl rfl (hb hby dj92m8_35) (Nat.le_of_ble_eq_true rfl) (Nat.le_of_ble_eq_true rfl) ?_
  have Vd385 : OView Z _ T384.heap (oS b382 [(.int (0 : Int32)), (.int (0 : Int32)), (.ref e383)] :: oB e383 [] :: F) := (V384v.bring 2 rfl).tail
  exact ⟨b382, e383, rfl, N384, Vd385, O384q⟩
theorem ef_vo11 (m : MethodId) (x0 : Addr) : entryFrame m #[(.ref x0)] 2 = mkF m 0 #[.val (.ref x0), .unset] [] := by first | (simp [entryFrame, mkF, argsToLocals, Value.category]; done) | rfl
def Q_vo11 (Z : State) (d : Addr) (x0 : Int64) (h0 : Heap) (n0 : Nat) (F : List (Addr × OObj)) (v : Option Value) (h : Heap) (L : List Loc) : Prop := ∃ a e : Addr, v = some (.ref a) ∧ Fr n0 L ∧ OView Z n0 h (oS a [(.int (1 : Int32)), (.int (0 : Int32)), (.ref e)] :: oB e [x0] :: F) ∧ Old Z n0 h
set_option maxRecDepth 65536 in
set_option maxHeartbeats 40000000 in
theorem rm_vo11 (l : Launch) (Z : State) (a0 : Array Value) (hw : ∀ d ∈ tables_1, d.before a0 Z = true) (ws : List Jvm.Cond) (d : Addr) (x0 : Int64) (h0 : Heap) (n0 : Nat) (F : List (Addr × OObj)) (Z0 : n0 ≤ h0.size) (SA : Sta Z Z.heap "java/util/BitSet" "$assertionsDisabled" "Z" (.int (1 : Int32))) (z0 : ¬ x0 = (0 : Int64)) (V0 : OView Z n0 h0 (oB d [x0] :: F)) (O0 : Old Z n0 h0) :
    MetFree l (⟨"java/util/BitSet", "valueOf", "([J)Ljava/util/BitSet;"⟩ : MethodName) (head1 (Jvm.Cond.code (⟨"java/util/BitSet", "valueOf", "([J)Ljava/util/BitSet;"⟩ : MethodName) jdk_92_method_8_code 2 (some (.object "java/util/BitSet")) :: ws) ({ frames := 2, cells := 2, slots := 4, locals := 30 } : Room)) (fun a_ U => a_ = #[(.ref d)] ∧ Z.Warmed39 U.vm ∧ U.heap = h0) (fun _ _ _ _ _ => True) (fun _ U o U' => ∃ v L, o = .returned v ∧ Q_vo11 Z d x0 h0 n0 F v U'.heap L ∧ FrameEnd U o U' L ({ frames := 2, cells := 2, slots := 4, locals := 30 } : Room).cells ({ frames := 2, cells := 2, slots := 4, locals := 30 } : Room).slots) := by
  refine MetFree.of_bodySF (plainFor_of_name pn_7) hisR ?_
  intro p e s m args below meth c s₁ Bd hml0 hP hK
  obtain ⟨rfl, hZ, hh⟩ := hP
  have hx := Bd.exec
  have hby := Bd.bytes
  have hlk : meth.locks = false := Bd.notSynchronized
  have hml : c.maxLocals = 2 := hml0
  have hown : s.vm.findClass "java/util/BitSet" = some m.cls := findClass_of_methodNamed Bd.named
  have hnm := (name_of_methodNamed Bd.named Bd.method).1
  have X0 : Stand p l e ({ frames := 2, cells := 2, slots := 4, locals := 30 } : Room) s m #[(.ref d)] below meth c s₁ [] 0 0 := Stand.of_body Bd
  have e0 : s₁.heap = h0 := by rw [← hh, Bd.state]; rfl
  have N0 := Fr.nil n0
  show OGets p e below (OLeaves s (Q_vo11 Z d x0 h0 n0 F ) ({ frames := 2, cells := 2, slots := 4, locals := 30 } : Room).cells ({ frames := 2, cells := 2, slots := 4, locals := 30 } : Room).slots) _
  refine OGets.enter (ef_vo11 m d) ?_
  show OGets p e below _ (s₁.setTop (mkF m 0 #[rv d, uv] []))
  refine OGets.step (fun _ => XS.aloadN X0.here hx rfl (hb hby dj92m8_0) rfl rfl) ?_
  obtain ⟨cl386, Ar386, S386⟩ := V0.arr 0 rfl
  have ln386 : cl386.slots.size.toInt32 = (1 : Int32) := by rw [own_len S386]; rfl
  refine OGets.step (U' := s₁.setTop (mkF m 2 #[rv d, uv] [(.int (1 : Int32))])) (fun t kt => ?_) ?_
  · refine X0.arraylength hx (by rw [e0]; exact Ar386.1) (State.isArrayOf_alike hZ.alike Ar386.2.1) (g := (mkF m 1 #[rv d, uv] [(.ref d)])) rfl rfl (hb hby dj92m8_1) _ ?_
    rw [ln386]; exact kt
  refine OGets.step (fun _ => XS.istoreN X0.here hx rfl (hb hby dj92m8_2) rfl (l' := #[rv d, iv (1 : Int32)]) rfl) ?_
  refine OGets.step (fun _ => XS.iloadN X0.here hx rfl (hb hby dj92m8_3) rfl) ?_
  refine OGets.step (fun _ => XS.ifNo X0.here hx rfl (hb hby dj92m8_4) rfl ((if0 _ _).trans (tlt (by decide : (0 : Int32) < (1 : Int32))).2.2.2)) ?_
  refine OGets.step (fun _ => XS.aloadN X0.here hx rfl (hb hby dj92m8_7) rfl rfl) ?_
  show OGets p e below _ (s₁.setTop (mkF m 8 #[rv d, iv (1 : Int32)] [(.ref d)]))
  refine OGets.step (fun _ => XS.iloadN X0.here hx rfl (hb hby dj92m8_8) rfl) ?_
  refine OGets.step (fun _ => XS.iconst X0.here hx rfl (hb hby dj92m8_9)) ?_
  refine OGets.step (fun _ => XS.isub X0.here hx rfl (hb hby dj92m8_10) rfl) ?_
  show OGets p e below _ (s₁.setTop (mkF m 11 #[rv d, iv (1 : Int32)] [(.int (0 : Int32)), (.ref d)]))
  obtain ⟨cl388, Ar388, S388⟩ := V0.arr 0 rfl
  refine OGets.step (fun _ => X0.laload hx (j := (0 : Int32)) (v := (.long x0)) (by rw [e0]; exact Ar388.1) (State.isArrayOf_alike hZ.alike Ar388.2.1) Ar388.2.2 (own_inb S388 0 (by decide) (Nat.le_of_ble_eq_true rfl)) (own_get S388 0 (by decide) rfl) (g := (mkF m 11 #[rv d, iv (1 : Int32)] [(.int (0 : Int32)), (.ref d)])) rfl rfl (hb hby dj92m8_11) _) ?_
  refine OGets.step (fun _ => XS.lconst X0.here hx rfl (hb hby dj92m8_12)) ?_
  refine OGets.step (fun _ => XS.lcmp X0.here hx rfl (hb hby dj92m8_13) rfl) ?_
  refine OGets.step (fun _ => XS.ifYes X0.here hx rfl (pc0 := 14) (pc' := 23) rfl (hb hby dj92m8_14) rfl ((if0 _ _).trans (feq (fun q => (z0 : ¬ (x0 = (0 : Int64))) ((lw_eq _ _).mp q))).2) (by decide) (by decide)) ?_
  obtain ⟨T390, h390, X390, e390, E390, A390, D390, -, st390⟩ := newO X0 hx hZ hown (ow hw 74 rfl) (ow hw 75 rfl) (ow hw 72 rfl) e0 (g := (mkF m 23 #[rv d, iv (1 : Int32)] [])) rfl (hb hby dj92m8_23) (by decide) (by decide)
  have V390' := V0.newObj (ns := ns_BitSet) (vs := [(.int (0 : Int32)), (.int (0 : Int32)), .null]) Z0 E390 A390 D390 (lay_ns_BitSet hw) (by decide) (by decide)
  have Z390 : n0 ≤ h390.size := Nat.le_trans Z0 E390.1
  obtain ⟨b390, g390⟩ : ∃ z, z = h0.size := ⟨_, rfl⟩
  rw [← g390] at V390' st390
  have V390 : OView Z n0 h390 (oS b390 [(.int (0 : Int32)), (.int (0 : Int32)), .null] :: oB d [x0] :: F) := V390'
  have O390 := O0.ext E390
  refine OGets.step st390 ?_
  refine OGets.step (fun _ => XS.dup X390.here hx rfl (hb hby dj92m8_26) rfl rfl) ?_
  refine OGets.step (fun _ => XS.aloadN X390.here hx rfl (hb hby dj92m8_27) rfl rfl) ?_
  refine OGets.step (fun _ => XS.iloadN X390.here hx rfl (hb hby dj92m8_28) rfl) ?_
  have V391_ : OView Z _ h390 (oB d [x0] :: oS b390 [(.int (0 : Int32)), (.int (0 : Int32)), .null] :: F) := (V390.bring 1 rfl)
  obtain ⟨_, _, ⟨T391, L391, k391, n391⟩, -, X391, ⟨Lc391, hQ391, l391, y391, z391⟩, st391⟩ := Jvm.LawKit.callS X390 hx (y := (⟨"java/util/Arrays", "copyOf", "([JI)[J"⟩ : MethodName)) hown (mvT hZ (ow hw 76 rfl)) (mvT hZ (ow hw 77 rfl)) (mvT hZ (ow hw 38 rfl)) (mvT hZ (ow hw 78 rfl)) (by decide) (backOf (W := 2) (rm_co11 l Z a0 hw [] d x0 h390 n0 _ Z390  V391_ O390) hZ (ow hw 78 rfl) (ow hw 38 rfl) (by decide) (by decide)) (g := (mkF m 29 #[rv d, iv (1 : Int32)] [(.int (1 : Int32)), (.ref d), (.ref b390), (.ref b390)])) rfl (by rw [hml]; rfl) (argsL := [(.ref d), (.int (1 : Int32))]) (rest := [(.ref b390), (.ref b390)]) (lenOf pd_9 rfl) rfl (by show 2 * 0 + _ ≤ _; exact Nat.le_of_eq rfl) (hb hby dj92m8_29) (fun _ _ => ⟨rfl, e390, Nat.le_of_ble_eq_true rfl, Nat.le_of_ble_eq_true rfl⟩)
  dsimp only [Pt.U, Pt.locs, Pt.cells, Pt.slots] at X391 l391 y391 z391 st391 hQ391
  rw [l391, y391, z391] at X391
  obtain ⟨e391, rfl, N391q, V391, O391q⟩ := hQ391
  have N391 := Fr.app N0 N391q
  have V391v : OView Z n0 T391.heap (oB e391 [x0] :: oB d [x0] :: oS b390 [(.int (0 : Int32)), (.int (0 : Int32)), .null] :: F) := V391
  have Z391 : n0 ≤ T391.heap.size := V391v.big 0 rfl
  refine OGets.step st391 ?_
  have V392_ : OView Z _ T391.heap (oS b390 [(.int (0 : Int32)), (.int (0 : Int32)), .null] :: oB e391 [x0] :: oB d [x0] :: F) := (V391v.bring 2 rfl)
  obtain ⟨_, _, ⟨T392, L392, k392, n392⟩, -, X392, ⟨Lc392, hQ392, l392, y392, z392⟩, st392⟩ := X391.specialBack hx (y := (⟨"java/util/BitSet", "<init>", "([J)V"⟩ : MethodName)) rfl hown (mvT hZ (ow hw 88 rfl)) (mvT hZ (ow hw 89 rfl)) (mvT hZ (ow hw 91 rfl)) (by decide) (backOf (W := 1) (rm_bi1 l Z a0 hw [] b390 e391 x0 T391.heap n0 _ Z391 SA V392_ O391q) hZ (ow hw 91 rfl) (ow hw 72 rfl) (by decide) (by decide)) (g := (mkF m 32 #[rv d, iv (1 : Int32)] [(.ref e391), (.ref b390), (.ref b390)])) rfl (by rw [hml]; rfl) (Steps.refl _) (a := b390) (argsL := [(.ref e391)]) (rest := [(.ref b390)]) (lenOf pd_10 rfl) rfl (by show 2 * 0 + _ ≤ _; exact Nat.le_of_eq rfl) (hb hby dj92m8_32) (fun _ _ => ⟨rfl, rfl, Nat.le_of_ble_eq_true rfl, Nat.le_of_ble_eq_true rfl⟩)
  dsimp only [Pt.U, Pt.locs, Pt.cells, Pt.slots] at X392 l392 y392 z392 st392 hQ392
  rw [l392, y392, z392] at X392
  obtain ⟨rfl, N392q, V392, O392q⟩ := hQ392
  have N392 := Fr.app N391 N392q
  have V392v : OView Z n0 T392.heap (oS b390 [(.int (1 : Int32)), (.int (0 : Int32)), (.ref e391)] :: oB e391 [x0] :: oB d [x0] :: F) := V392
  have Z392 : n0 ≤ T392.heap.size := V392v.big 0 rfl
  refine OGets.after st392 ?_
  refine OGets.retA X392 hx hlk (t := (.object "java/util/BitSet")) Bd.returns rfl rfl rfl (hb hby dj92m8_35) (Nat.le_of_ble_eq_true rfl) (Nat.le_of_ble_eq_true rfl) ?_
  have Vd393 : OView Z _ T392.heap (oS b390 [(.int (1 : Int32)), (.int (0 : Int32)), (.ref e391)] :: oB e391 [x0] :: F) := (V392v.bring 2 rfl).tail
  exact ⟨b390, e391, rfl, N392, Vd393, O392q⟩
theorem ef_vo20 (m : MethodId) (x0 : Addr) : entryFrame m #[(.ref x0)] 2 = mkF m 0 #[.val (.ref x0), .unset] [] := by first | (simp [entryFrame, mkF, argsToLocals, Value.category]; done) | rfl
def Q_vo20 (Z : State) (d : Addr) (x0 : Int64) (x1 : Int64) (h0 : Heap) (n0 : Nat) (F : List (Addr × OObj)) (v : Option Value) (h : Heap) (L : List Loc) : Prop := ∃ a e : Addr, v = some (.ref a) ∧ Fr n0 L ∧ OView Z n0 h (oS a [(.int (0 : Int32)), (.int (0 : Int32)), (.ref e)] :: oB e [] :: F) ∧ Old Z n0 h
set_option maxRecDepth 65536 in
set_option maxHeartbeats 40000000 in
theorem rm_vo20 (l : Launch) (Z : State) (a0 : Array Value) (hw : ∀ d ∈ tables_1, d.before a0 Z = true) (ws : List Jvm.Cond) (d : Addr) (x0 : Int64) (x1 : Int64) (h0 : Heap) (n0 : Nat) (F : List (Addr × OObj)) (Z0 : n0 ≤ h0.size) (SA : Sta Z Z.heap "java/util/BitSet" "$assertionsDisabled" "Z" (.int (1 : Int32))) (z0 : x0 = (0 : Int64)) (z1 : x1 = (0 : Int64)) (V0 : OView Z n0 h0 (oB d [x0, x1] :: F)) (O0 : Old Z n0 h0) :
    MetFree l (⟨"java/util/BitSet", "valueOf", "([J)Ljava/util/BitSet;"⟩ : MethodName) (head1 (Jvm.Cond.code (⟨"java/util/BitSet", "valueOf", "([J)Ljava/util/BitSet;"⟩ : MethodName) jdk_92_method_8_code 2 (some (.object "java/util/BitSet")) :: ws) ({ frames := 2, cells := 2, slots := 3, locals := 34 } : Room)) (fun a_ U => a_ = #[(.ref d)] ∧ Z.Warmed39 U.vm ∧ U.heap = h0) (fun _ _ _ _ _ => True) (fun _ U o U' => ∃ v L, o = .returned v ∧ Q_vo20 Z d x0 x1 h0 n0 F v U'.heap L ∧ FrameEnd U o U' L ({ frames := 2, cells := 2, slots := 3, locals := 34 } : Room).cells ({ frames := 2, cells := 2, slots := 3, locals := 34 } : Room).slots) := by
  refine MetFree.of_bodySF (plainFor_of_name pn_7) hisR ?_
  intro p e s m args below meth c s₁ Bd hml0 hP hK
  obtain ⟨rfl, hZ, hh⟩ := hP
  have hx := Bd.exec
  have hby := Bd.bytes
  have hlk : meth.locks = false := Bd.notSynchronized
  have hml : c.maxLocals = 2 := hml0
  have hown : s.vm.findClass "java/util/BitSet" = some m.cls := findClass_of_methodNamed Bd.named
  have hnm := (name_of_methodNamed Bd.named Bd.method).1
  have X0 : Stand p l e ({ frames := 2, cells := 2, slots := 3, locals := 34 } : Room) s m #[(.ref d)] below meth c s₁ [] 0 0 := Stand.of_body Bd
  have e0 : s₁.heap = h0 := by rw [← hh, Bd.state]; rfl
  have N0 := Fr.nil n0
  show OGets p e below (OLeaves s (Q_vo20 Z d x0 x1 h0 n0 F ) ({ frames := 2, cells := 2, slots := 3, locals := 34 } : Room).cells ({ frames := 2, cells := 2, slots := 3, locals := 34 } : Room).slots) _
  refine OGets.enter (ef_vo20 m d) ?_
  show OGets p e below _ (s₁.setTop (mkF m 0 #[rv d, uv] []))
  refine OGets.step (fun _ => XS.aloadN X0.here hx rfl (hb hby dj92m8_0) rfl rfl) ?_
  obtain ⟨cl394, Ar394, S394⟩ := V0.arr 0 rfl
  have ln394 : cl394.slots.size.toInt32 = (2 : Int32) := by rw [own_len S394]; rfl
  refine OGets.step (U' := s₁.setTop (mkF m 2 #[rv d, uv] [(.int (2 : Int32))])) (fun t kt => ?_) ?_
  · refine X0.arraylength hx (by rw [e0]; exact Ar394.1) (State.isArrayOf_alike hZ.alike Ar394.2.1) (g := (mkF m 1 #[rv d, uv] [(.ref d)])) rfl rfl (hb hby dj92m8_1) _ ?_
    rw [ln394]; exact kt
  refine OGets.step (fun _ => XS.istoreN X0.here hx rfl (hb hby dj92m8_2) rfl (l' := #[rv d, iv (2 : Int32)]) rfl) ?_
  refine OGets.step (fun _ => XS.iloadN X0.here hx rfl (hb hby dj92m8_3) rfl) ?_
  refine OGets.step (fun _ => XS.ifNo X0.here hx rfl (hb hby dj92m8_4) rfl ((if0 _ _).trans (tlt (by decide : (0 : Int32) < (2 : Int32))).2.2.2)) ?_
  refine OGets.step (fun _ => XS.aloadN X0.here hx rfl (hb hby dj92m8_7) rfl rfl) ?_
  show OGets p e below _ (s₁.setTop (mkF m 8 #[rv d, iv (2 : Int32)] [(.ref d)]))
  refine OGets.step (fun _ => XS.iloadN X0.here hx rfl (hb hby dj92m8_8) rfl) ?_
  refine OGets.step (fun _ => XS.iconst X0.here hx rfl (hb hby dj92m8_9)) ?_
  refine OGets.step (fun _ => XS.isub X0.here hx rfl (hb hby dj92m8_10) rfl) ?_
  show OGets p e below _ (s₁.setTop (mkF m 11 #[rv d, iv (2 : Int32)] [(.int (1 : Int32)), (.ref d)]))
  obtain ⟨cl396, Ar396, S396⟩ := V0.arr 0 rfl
  refine OGets.step (fun _ => X0.laload hx (j := (1 : Int32)) (v := (.long x1)) (by rw [e0]; exact Ar396.1) (State.isArrayOf_alike hZ.alike Ar396.2.1) Ar396.2.2 (own_inb S396 1 (by decide) (Nat.le_of_ble_eq_true rfl)) (own_get S396 1 (by decide) rfl) (g := (mkF m 11 #[rv d, iv (2 : Int32)] [(.int (1 : Int32)), (.ref d)])) rfl rfl (hb hby dj92m8_11) _) ?_
  refine OGets.step (fun _ => XS.lconst X0.here hx rfl (hb hby dj92m8_12)) ?_
  refine OGets.step (fun _ => XS.lcmp X0.here hx rfl (hb hby dj92m8_13) rfl) ?_
  refine OGets.step (fun _ => XS.ifNo X0.here hx rfl (hb hby dj92m8_14) rfl ((if0 _ _).trans (teq ((lw_eq _ _).mpr (z1 : x1 = (0 : Int64)))).2)) ?_
  refine OGets.step (fun _ => XS.iinc X0.here hx rfl (hb hby dj92m8_17) rfl (l' := #[rv d, iv (1 : Int32)]) rfl) ?_
  refine OGets.step (fun _ => XS.goto X0.here hx rfl (pc0 := 20) (pc' := 3) rfl (hb hby dj92m8_20) (by decide) (by decide)) ?_
  show OGets p e below _ (s₁.setTop (mkF m 3 #[rv d, iv (1 : Int32)] []))
  refine OGets.step (fun _ => XS.iloadN X0.here hx rfl (hb hby dj92m8_3) rfl) ?_
  refine OGets.step (fun _ => XS.ifNo X0.here hx rfl (hb hby dj92m8_4) rfl ((if0 _ _).trans (tlt (by decide : (0 : Int32) < (1 : Int32))).2.2.2)) ?_
  refine OGets.step (fun _ => XS.aloadN X0.here hx rfl (hb hby dj92m8_7) rfl rfl) ?_
  refine OGets.step (fun _ => XS.iloadN X0.here hx rfl (hb hby dj92m8_8) rfl) ?_
  refine OGets.step (fun _ => XS.iconst X0.here hx rfl (hb hby dj92m8_9)) ?_
  refine OGets.step (fun _ => XS.isub X0.here hx rfl (hb hby dj92m8_10) rfl) ?_
  show OGets p e below _ (s₁.setTop (mkF m 11 #[rv d, iv (1 : Int32)] [(.int (0 : Int32)), (.ref d)]))
  obtain ⟨cl399, Ar399, S399⟩ := V0.arr 0 rfl
  refine OGets.step (fun _ => X0.laload hx (j := (0 : Int32)) (v := (.long x0)) (by rw [e0]; exact Ar399.1) (State.isArrayOf_alike hZ.alike Ar399.2.1) Ar399.2.2 (own_inb S399 0 (by decide) (Nat.le_of_ble_eq_true rfl)) (own_get S399 0 (by decide) rfl) (g := (mkF m 11 #[rv d, iv (1 : Int32)] [(.int (0 : Int32)), (.ref d)])) rfl rfl (hb hby dj92m8_11) _) ?_
  refine OGets.step (fun _ => XS.lconst X0.here hx rfl (hb hby dj92m8_12)) ?_
  refine OGets.step (fun _ => XS.lcmp X0.here hx rfl (hb hby dj92m8_13) rfl) ?_
  refine OGets.step (fun _ => XS.ifNo X0.here hx rfl (hb hby dj92m8_14) rfl ((if0 _ _).trans (teq ((lw_eq _ _).mpr (z0 : x0 = (0 : Int64)))).2)) ?_
  refine OGets.step (fun _ => XS.iinc X0.here hx rfl (hb hby dj92m8_17) rfl (l' := #[rv d, iv (0 : Int32)]) rfl) ?_
  refine OGets.step (fun _ => XS.goto X0.here hx rfl (pc0 := 20) (pc' := 3) rfl (hb hby dj92m8_20) (by decide) (by decide)) ?_
  show OGets p e below _ (s₁.setTop (mkF m 3 #[rv d, iv (0 : Int32)] []))
  refine OGets.step (fun _ => XS.iloadN X0.here hx rfl (hb hby dj92m8_3) rfl) ?_
  refine OGets.step (fun _ => XS.ifYes X0.here hx rfl (pc0 := 4) (pc' := 23) rfl (hb hby dj92m8_4) rfl ((if0 _ _).trans (flt (by decide : ¬ ((0 : Int32) < (0 : Int32)))).2.2.2) (by decide) (by decide)) ?_
  obtain ⟨T402, h402, X402, e402, E402, A402, D402, -, st402⟩ := newO X0 hx hZ hown (ow hw 74 rfl) (ow hw 75 rfl) (ow hw 72 rfl) e0 (g := (mkF m 23 #[rv d, iv (0 : Int32)] [])) rfl (hb hby dj92m8_23) (by decide) (by decide)
  have V402' := V0.newObj (ns := ns_BitSet) (vs := [(.int (0 : Int32)), (.int (0 : Int32)), .null]) Z0 E402 A402 D402 (lay_ns_BitSet hw) (by decide) (by decide)
  have Z402 : n0 ≤ h402.size := Nat.le_trans Z0 E402.1
  obtain ⟨b402, g402⟩ : ∃ z, z = h0.size := ⟨_, rfl⟩
  rw [← g402] at V402' st402
  have V402 : OView Z n0 h402 (oS b402 [(.int (0 : Int32)), (.int (0 : Int32)), .null] :: oB d [x0, x1] :: F) := V402'
  have O402 := O0.ext E402
  refine OGets.step st402 ?_
  refine OGets.step (fun _ => XS.dup X402.here hx rfl (hb hby dj92m8_26) rfl rfl) ?_
  refine OGets.step (fun _ => XS.aloadN X402.here hx rfl (hb hby dj92m8_27) rfl rfl) ?_
  refine OGets.step (fun _ => XS.iloadN X402.here hx rfl (hb hby dj92m8_28) rfl) ?_
  have V403_ : OView Z _ h402 (oB d [x0, x1] :: oS b402 [(.int (0 : Int32)), (.int (0 : Int32)), .null] :: F) := (V402.bring 1 rfl)
  obtain ⟨_, _, ⟨T403, L403, k403, n403⟩, -, X403, ⟨Lc403, hQ403, l403, y403, z403⟩, st403⟩ := Jvm.LawKit.callS X402 hx (y := (⟨"java/util/Arrays", "copyOf", "([JI)[J"⟩ : MethodName)) hown (mvT hZ (ow hw 76 rfl)) (mvT hZ (ow hw 77 rfl)) (mvT hZ (ow hw 38 rfl)) (mvT hZ (ow hw 78 rfl)) (by decide) (backOf (W := 2) (rm_co20 l Z a0 hw [] d x0 x1 h402 n0 _ Z402  V403_ O402) hZ (ow hw 78 rfl) (ow hw 38 rfl) (by decide) (by decide)) (g := (mkF m 29 #[rv d, iv (0 : Int32)] [(.int (0 : Int32)), (.ref d), (.ref b402), (.ref b402)])) rfl (by rw [hml]; rfl) (argsL := [(.ref d), (.int (0 : Int32))]) (rest := [(.ref b402), (.ref b402)]) (lenOf pd_9 rfl) rfl (by show 2 * 0 + _ ≤ _; exact Nat.le_of_eq rfl) (hb hby dj92m8_29) (fun _ _ => ⟨rfl, e402, Nat.le_of_ble_eq_true rfl, Nat.le_of_ble_eq_true rfl⟩)
  dsimp only [Pt.U, Pt.locs, Pt.cells, Pt.slots] at X403 l403 y403 z403 st403 hQ403
  rw [l403, y403, z403] at X403
  obtain ⟨e403, rfl, N403q, V403, O403q⟩ := hQ403
  have N403 := Fr.app N0 N403q
  have V403v : OView Z n0 T403.heap (oB e403 [] :: oB d [x0, x1] :: oS b402 [(.int (0 : Int32)), (.int (0 : Int32)), .null] :: F) := V403
  have Z403 : n0 ≤ T403.heap.size := V403v.big 0 rfl
  refine OGets.step st403 ?_
  have V404_ : OView Z _ T403.heap (oS b402 [(.int (0 : Int32)), (.int (0 : Int32)), .null] :: oB e403 [] :: oB d [x0, x1] :: F) := (V403v.bring 2 rfl)
  obtain ⟨_, _, ⟨T404, L404, k404, n404⟩, -, X404, ⟨Lc404, hQ404, l404, y404, z404⟩, st404⟩ := X403.specialBack hx (y := (⟨"java/util/BitSet", "<init>", "([J)V"⟩ : MethodName)) rfl hown (mvT hZ (ow hw 88 rfl)) (mvT hZ (ow hw 89 rfl)) (mvT hZ (ow hw 91 rfl)) (by decide) (backOf (W := 1) (rm_bi0 l Z a0 hw [] b402 e403 T403.heap n0 _ Z403 SA V404_ O403q) hZ (ow hw 91 rfl) (ow hw 72 rfl) (by decide) (by decide)) (g := (mkF m 32 #[rv d, iv (0 : Int32)] [(.ref e403), (.ref b402), (.ref b402)])) rfl (by rw [hml]; rfl) (Steps.refl _) (a := b402) (argsL := [(.ref e403)]) (rest := [(.ref b402)]) (lenOf pd_10 rfl) rfl (by show 2 * 0 + _ ≤ _; exact Nat.le_of_eq rfl) (hb hby dj92m8_32) (fun _ _ => ⟨rfl, rfl, Nat.le_of_ble_eq_true rfl, Nat.le_of_ble_eq_true rfl⟩)
  dsimp only [Pt.U, Pt.locs, Pt.cells, Pt.slots] at X404 l404 y404 z404 st404 hQ404
  rw [l404, y404, z404] at X404
  obtain ⟨rfl, N404q, V404, O404q⟩ := hQ404
  have N404 := Fr.app N403 N404q
  have V404v : OView Z n0 T404.heap (oS b402 [(.int (0 : Int32)), (.int (0 : Int32)), (.ref e403)] :: oB e403 [] :: oB d [x0, x1] :: F) := V404
  have Z404 : n0 ≤ T404.heap.size := V404v.big 0 rfl
  refine OGets.after st404 ?_
  refine OGets.retA X404 hx hlk (t := (.object "java/util/BitSet")) Bd.returns rfl rfl rfl (hb hby dj92m8_35) (Nat.le_of_ble_eq_true rfl) (Nat.le_of_ble_eq_true rfl) ?_
  have Vd405 : OView Z _ T404.heap (oS b402 [(.int (0 : Int32)), (.int (0 : Int32)), (.ref e403)] :: oB e403 [] :: F) := (V404v.bring 2 rfl).tail
  exact ⟨b402, e403, rfl, N404, Vd405, O404q⟩
theorem ef_vo21 (m : MethodId) (x0 : Addr) : entryFrame m #[(.ref x0)] 2 = mkF m 0 #[.val (.ref x0), .unset] [] := by first | (simp [entryFrame, mkF, argsToLocals, Value.category]; done) | rfl
def Q_vo21 (Z : State) (d : Addr) (x0 : Int64) (x1 : Int64) (h0 : Heap) (n0 : Nat) (F : List (Addr × OObj)) (v : Option Value) (h : Heap) (L : List Loc) : Prop := ∃ a e : Addr, v = some (.ref a) ∧ Fr n0 L ∧ OView Z n0 h (oS a [(.int (1 : Int32)), (.int (0 : Int32)), (.ref e)] :: oB e [x0] :: F) ∧ Old Z n0 h
set_option maxRecDepth 65536 in
set_option maxHeartbeats 40000000 in
theorem rm_vo21 (l : Launch) (Z : State) (a0 : Array Value) (hw : ∀ d ∈ tables_1, d.before a0 Z = true) (ws : List Jvm.Cond) (d : Addr) (x0 : Int64) (x1 : Int64) (h0 : Heap) (n0 : Nat) (F : List (Addr × OObj)) (Z0 : n0 ≤ h0.size) (SA : Sta Z Z.heap "java/util/BitSet" "$assertionsDisabled" "Z" (.int (1 : Int32))) (z0 : ¬ x0 = (0 : Int64)) (z1 : x1 = (0 : Int64)) (V0 : OView Z n0 h0 (oB d [x0, x1] :: F)) (O0 : Old Z n0 h0) :
    MetFree l (⟨"java/util/BitSet", "valueOf", "([J)Ljava/util/BitSet;"⟩ : MethodName) (head1 (Jvm.Cond.code (⟨"java/util/BitSet", "valueOf", "([J)Ljava/util/BitSet;"⟩ : MethodName) jdk_92_method_8_code 2 (some (.object "java/util/BitSet")) :: ws) ({ frames := 2, cells := 2, slots := 4, locals := 34 } : Room)) (fun a_ U => a_ = #[(.ref d)] ∧ Z.Warmed39 U.vm ∧ U.heap = h0) (fun _ _ _ _ _ => True) (fun _ U o U' => ∃ v L, o = .returned v ∧ Q_vo21 Z d x0 x1 h0 n0 F v U'.heap L ∧ FrameEnd U o U' L ({ frames := 2, cells := 2, slots := 4, locals := 34 } : Room).cells ({ frames := 2, cells := 2, slots := 4, locals := 34 } : Room).slots) := by
  refine MetFree.of_bodySF (plainFor_of_name pn_7) hisR ?_
  intro p e s m args below meth c s₁ Bd hml0 hP hK
  obtain ⟨rfl, hZ, hh⟩ := hP
  have hx := Bd.exec
  have hby := Bd.bytes
  have hlk : meth.locks = false := Bd.notSynchronized
  have hml : c.maxLocals = 2 := hml0
  have hown : s.vm.findClass "java/util/BitSet" = some m.cls := findClass_of_methodNamed Bd.named
  have hnm := (name_of_methodNamed Bd.named Bd.method).1
  have X0 : Stand p l e ({ frames := 2, cells := 2, slots := 4, locals := 34 } : Room) s m #[(.ref d)] below meth c s₁ [] 0 0 := Stand.of_body Bd
  have e0 : s₁.heap = h0 := by rw [← hh, Bd.state]; rfl
  have N0 := Fr.nil n0
  show OGets p e below (OLeaves s (Q_vo21 Z d x0 x1 h0 n0 F ) ({ frames := 2, cells := 2, slots := 4, locals := 34 } : Room).cells ({ frames := 2, cells := 2, slots := 4, locals := 34 } : Room).slots) _
  refine OGets.enter (ef_vo21 m d) ?_
  show OGets p e below _ (s₁.setTop (mkF m 0 #[rv d, uv] []))
  refine OGets.step (fun _ => XS.aloadN X0.here hx rfl (hb hby dj92m8_0) rfl rfl) ?_
  obtain ⟨cl406, Ar406, S406⟩ := V0.arr 0 rfl
  have ln406 : cl406.slots.size.toInt32 = (2 : Int32) := by rw [own_len S406]; rfl
  refine OGets.step (U' := s₁.setTop (mkF m 2 #[rv d, uv] [(.int (2 : Int32))])) (fun t kt => ?_) ?_
  · refine X0.arraylength hx (by rw [e0]; exact Ar406.1) (State.isArrayOf_alike hZ.alike Ar406.2.1) (g := (mkF m 1 #[rv d, uv] [(.ref d)])) rfl rfl (hb hby dj92m8_1) _ ?_
    rw [ln406]; exact kt
  refine OGets.step (fun _ => XS.istoreN X0.here hx rfl (hb hby dj92m8_2) rfl (l' := #[rv d, iv (2 : Int32)]) rfl) ?_
  refine OGets.step (fun _ => XS.iloadN X0.here hx rfl (hb hby dj92m8_3) rfl) ?_
  refine OGets.step (fun _ => XS.ifNo X0.here hx rfl (hb hby dj92m8_4) rfl ((if0 _ _).trans (tlt (by decide : (0 : Int32) < (2 : Int32))).2.2.2)) ?_
  refine OGets.step (fun _ => XS.aloadN X0.here hx rfl (hb hby dj92m8_7) rfl rfl) ?_
  show OGets p e below _ (s₁.setTop (mkF m 8 #[rv d, iv (2 : Int32)] [(.ref d)]))
  refine OGets.step (fun _ => XS.iloadN X0.here hx rfl (hb hby dj92m8_8) rfl) ?_
  refine OGets.step (fun _ => XS.iconst X0.here hx rfl (hb hby dj92m8_9)) ?_
  refine OGets.step (fun _ => XS.isub X0.here hx rfl (hb hby dj92m8_10) rfl) ?_
  show OGets p e below _ (s₁.setTop (mkF m 11 #[rv d, iv (2 : Int32)] [(.int (1 : Int32)), (.ref d)]))
  obtain ⟨cl408, Ar408, S408⟩ := V0.arr 0 rfl
  refine OGets.step (fun _ => X0.laload hx (j := (1 : Int32)) (v := (.long x1)) (by rw [e0]; exact Ar408.1) (State.isArrayOf_alike hZ.alike Ar408.2.1) Ar408.2.2 (own_inb S408 1 (by decide) (Nat.le_of_ble_eq_true rfl)) (own_get S408 1 (by decide) rfl) (g := (mkF m 11 #[rv d, iv (2 : Int32)] [(.int (1 : Int32)), (.ref d)])) rfl rfl (hb hby dj92m8_11) _) ?_
  refine OGets.step (fun _ => XS.lconst X0.here hx rfl (hb hby dj92m8_12)) ?_
  refine OGets.step (fun _ => XS.lcmp X0.here hx rfl (hb hby dj92m8_13) rfl) ?_
  refine OGets.step (fun _ => XS.ifNo X0.here hx rfl (hb hby dj92m8_14) rfl ((if0 _ _).trans (teq ((lw_eq _ _).mpr (z1 : x1 = (0 : Int64)))).2)) ?_
  refine OGets.step (fun _ => XS.iinc X0.here hx rfl (hb hby dj92m8_17) rfl (l' := #[rv d, iv (1 : Int32)]) rfl) ?_
  refine OGets.step (fun _ => XS.goto X0.here hx rfl (pc0 := 20) (pc' := 3) rfl (hb hby dj92m8_20) (by decide) (by decide)) ?_
  show OGets p e below _ (s₁.setTop (mkF m 3 #[rv d, iv (1 : Int32)] []))
  refine OGets.step (fun _ => XS.iloadN X0.here hx rfl (hb hby dj92m8_3) rfl) ?_
  refine OGets.step (fun _ => XS.ifNo X0.here hx rfl (hb hby dj92m8_4) rfl ((if0 _ _).trans (tlt (by decide : (0 : Int32) < (1 : Int32))).2.2.2)) ?_
  refine OGets.step (fun _ => XS.aloadN X0.here hx rfl (hb hby dj92m8_7) rfl rfl) ?_
  refine OGets.step (fun _ => XS.iloadN X0.here hx rfl (hb hby dj92m8_8) rfl) ?_
  refine OGets.step (fun _ => XS.iconst X0.here hx rfl (hb hby dj92m8_9)) ?_
  refine OGets.step (fun _ => XS.isub X0.here hx rfl (hb hby dj92m8_10) rfl) ?_
  show OGets p e below _ (s₁.setTop (mkF m 11 #[rv d, iv (1 : Int32)] [(.int (0 : Int32)), (.ref d)]))
  obtain ⟨cl411, Ar411, S411⟩ := V0.arr 0 rfl
  refine OGets.step (fun _ => X0.laload hx (j := (0 : Int32)) (v := (.long x0)) (by rw [e0]; exact Ar411.1) (State.isArrayOf_alike hZ.alike Ar411.2.1) Ar411.2.2 (own_inb S411 0 (by decide) (Nat.le_of_ble_eq_true rfl)) (own_get S411 0 (by decide) rfl) (g := (mkF m 11 #[rv d, iv (1 : Int32)] [(.int (0 : Int32)), (.ref d)])) rfl rfl (hb hby dj92m8_11) _) ?_
  refine OGets.step (fun _ => XS.lconst X0.here hx rfl (hb hby dj92m8_12)) ?_
  refine OGets.step (fun _ => XS.lcmp X0.here hx rfl (hb hby dj92m8_13) rfl) ?_
  refine OGets.step (fun _ => XS.ifYes X0.here hx rfl (pc0 := 14) (pc' := 23) rfl (hb hby dj92m8_14) rfl ((if0 _ _).trans (feq (fun q => (z0 : ¬ (x0 = (0 : Int64))) ((lw_eq _ _).mp q))).2) (by decide) (by decide)) ?_
  obtain ⟨T413, h413, X413, e413, E413, A413, D413, -, st413⟩ := newO X0 hx hZ hown (ow hw 74 rfl) (ow hw 75 rfl) (ow hw 72 rfl) e0 (g := (mkF m 23 #[rv d, iv (1 : Int32)] [])) rfl (hb hby dj92m8_23) (by decide) (by decide)
  have V413' := V0.newObj (ns := ns_BitSet) (vs := [(.int (0 : Int32)), (.int (0 : Int32)), .null]) Z0 E413 A413 D413 (lay_ns_BitSet hw) (by decide) (by decide)
  have Z413 : n0 ≤ h413.size := Nat.le_trans Z0 E413.1
  obtain ⟨b413, g413⟩ : ∃ z, z = h0.size := ⟨_, rfl⟩
  rw [← g413] at V413' st413
  have V413 : OView Z n0 h413 (oS b413 [(.int (0 : Int32)), (.int (0 : Int32)), .null] :: oB d [x0, x1] :: F) := V413'
  have O413 := O0.ext E413
  refine OGets.step st413 ?_
  refine OGets.step (fun _ => XS.dup X413.here hx rfl (hb hby dj92m8_26) rfl rfl) ?_
  refine OGets.step (fun _ => XS.aloadN X413.here hx rfl (hb hby dj92m8_27) rfl rfl) ?_
  refine OGets.step (fun _ => XS.iloadN X413.here hx rfl (hb hby dj92m8_28) rfl) ?_
  have V414_ : OView Z _ h413 (oB d [x0, x1] :: oS b413 [(.int (0 : Int32)), (.int (0 : Int32)), .null] :: F) := (V413.bring 1 rfl)
  obtain ⟨_, _, ⟨T414, L414, k414, n414⟩, -, X414, ⟨Lc414, hQ414, l414, y414, z414⟩, st414⟩ := Jvm.LawKit.callS X413 hx (y := (⟨"java/util/Arrays", "copyOf", "([JI)[J"⟩ : MethodName)) hown (mvT hZ (ow hw 76 rfl)) (mvT hZ (ow hw 77 rfl)) (mvT hZ (ow hw 38 rfl)) (mvT hZ (ow hw 78 rfl)) (by decide) (backOf (W := 2) (rm_co21 l Z a0 hw [] d x0 x1 h413 n0 _ Z413  V414_ O413) hZ (ow hw 78 rfl) (ow hw 38 rfl) (by decide) (by decide)) (g := (mkF m 29 #[rv d, iv (1 : Int32)] [(.int (1 : Int32)), (.ref d), (.ref b413), (.ref b413)])) rfl (by rw [hml]; rfl) (argsL := [(.ref d), (.int (1 : Int32))]) (rest := [(.ref b413), (.ref b413)]) (lenOf pd_9 rfl) rfl (by show 2 * 0 + _ ≤ _; exact Nat.le_of_eq rfl) (hb hby dj92m8_29) (fun _ _ => ⟨rfl, e413, Nat.le_of_ble_eq_true rfl, Nat.le_of_ble_eq_true rfl⟩)
  dsimp only [Pt.U, Pt.locs, Pt.cells, Pt.slots] at X414 l414 y414 z414 st414 hQ414
  rw [l414, y414, z414] at X414
  obtain ⟨e414, rfl, N414q, V414, O414q⟩ := hQ414
  have N414 := Fr.app N0 N414q
  have V414v : OView Z n0 T414.heap (oB e414 [x0] :: oB d [x0, x1] :: oS b413 [(.int (0 : Int32)), (.int (0 : Int32)), .null] :: F) := V414
  have Z414 : n0 ≤ T414.heap.size := V414v.big 0 rfl
  refine OGets.step st414 ?_
  have V415_ : OView Z _ T414.heap (oS b413 [(.int (0 : Int32)), (.int (0 : Int32)), .null] :: oB e414 [x0] :: oB d [x0, x1] :: F) := (V414v.bring 2 rfl)
  obtain ⟨_, _, ⟨T415, L415, k415, n415⟩, -, X415, ⟨Lc415, hQ415, l415, y415, z415⟩, st415⟩ := X414.specialBack hx (y := (⟨"java/util/BitSet", "<init>", "([J)V"⟩ : MethodName)) rfl hown (mvT hZ (ow hw 88 rfl)) (mvT hZ (ow hw 89 rfl)) (mvT hZ (ow hw 91 rfl)) (by decide) (backOf (W := 1) (rm_bi1 l Z a0 hw [] b413 e414 x0 T414.heap n0 _ Z414 SA V415_ O414q) hZ (ow hw 91 rfl) (ow hw 72 rfl) (by decide) (by decide)) (g := (mkF m 32 #[rv d, iv (1 : Int32)] [(.ref e414), (.ref b413), (.ref b413)])) rfl (by rw [hml]; rfl) (Steps.refl _) (a := b413) (argsL := [(.ref e414)]) (rest := [(.ref b413)]) (lenOf pd_10 rfl) rfl (by show 2 * 0 + _ ≤ _; exact Nat.le_of_eq rfl) (hb hby dj92m8_32) (fun _ _ => ⟨rfl, rfl, Nat.le_of_ble_eq_true rfl, Nat.le_of_ble_eq_true rfl⟩)
  dsimp only [Pt.U, Pt.locs, Pt.cells, Pt.slots] at X415 l415 y415 z415 st415 hQ415
  rw [l415, y415, z415] at X415
  obtain ⟨rfl, N415q, V415, O415q⟩ := hQ415
  have N415 := Fr.app N414 N415q
  have V415v : OView Z n0 T415.heap (oS b413 [(.int (1 : Int32)), (.int (0 : Int32)), (.ref e414)] :: oB e414 [x0] :: oB d [x0, x1] :: F) := V415
  have Z415 : n0 ≤ T415.heap.size := V415v.big 0 rfl
  refine OGets.after st415 ?_
  refine OGets.retA X415 hx hlk (t := (.object "java/util/BitSet")) Bd.returns rfl rfl rfl (hb hby dj92m8_35) (Nat.le_of_ble_eq_true rfl) (Nat.le_of_ble_eq_true rfl) ?_
  have Vd416 : OView Z _ T415.heap (oS b413 [(.int (1 : Int32)), (.int (0 : Int32)), (.ref e414)] :: oB e414 [x0] :: F) := (V415v.bring 2 rfl).tail
  exact ⟨b413, e414, rfl, N415, Vd416, O415q⟩
theorem ef_vo22 (m : MethodId) (x0 : Addr) : entryFrame m #[(.ref x0)] 2 = mkF m 0 #[.val (.ref x0), .unset] [] := by first | (simp [entryFrame, mkF, argsToLocals, Value.category]; done) | rfl
def Q_vo22 (Z : State) (d : Addr) (x0 : Int64) (x1 : Int64) (h0 : Heap) (n0 : Nat) (F : List (Addr × OObj)) (v : Option Value) (h : Heap) (L : List Loc) : Prop := ∃ a e : Addr, v = some (.ref a) ∧ Fr n0 L ∧ OView Z n0 h (oS a [(.int (2 : Int32)), (.int (0 : Int32)), (.ref e)] :: oB e [x0, x1] :: F) ∧ Old Z n0 h
set_option maxRecDepth 65536 in
set_option maxHeartbeats 40000000 in
theorem rm_vo22 (l : Launch) (Z : State) (a0 : Array Value) (hw : ∀ d ∈ tables_1, d.before a0 Z = true) (ws : List Jvm.Cond) (d : Addr) (x0 : Int64) (x1 : Int64) (h0 : Heap) (n0 : Nat) (F : List (Addr × OObj)) (Z0 : n0 ≤ h0.size) (SA : Sta Z Z.heap "java/util/BitSet" "$assertionsDisabled" "Z" (.int (1 : Int32))) (z1 : ¬ x1 = (0 : Int64)) (V0 : OView Z n0 h0 (oB d [x0, x1] :: F)) (O0 : Old Z n0 h0) :
    MetFree l (⟨"java/util/BitSet", "valueOf", "([J)Ljava/util/BitSet;"⟩ : MethodName) (head1 (Jvm.Cond.code (⟨"java/util/BitSet", "valueOf", "([J)Ljava/util/BitSet;"⟩ : MethodName) jdk_92_method_8_code 2 (some (.object "java/util/BitSet")) :: ws) ({ frames := 2, cells := 2, slots := 5, locals := 30 } : Room)) (fun a_ U => a_ = #[(.ref d)] ∧ Z.Warmed39 U.vm ∧ U.heap = h0) (fun _ _ _ _ _ => True) (fun _ U o U' => ∃ v L, o = .returned v ∧ Q_vo22 Z d x0 x1 h0 n0 F v U'.heap L ∧ FrameEnd U o U' L ({ frames := 2, cells := 2, slots := 5, locals := 30 } : Room).cells ({ frames := 2, cells := 2, slots := 5, locals := 30 } : Room).slots) := by
  refine MetFree.of_bodySF (plainFor_of_name pn_7) hisR ?_
  intro p e s m args below meth c s₁ Bd hml0 hP hK
  obtain ⟨rfl, hZ, hh⟩ := hP
  have hx := Bd.exec
  have hby := Bd.bytes
  have hlk : meth.locks = false := Bd.notSynchronized
  have hml : c.maxLocals = 2 := hml0
  have hown : s.vm.findClass "java/util/BitSet" = some m.cls := findClass_of_methodNamed Bd.named
  have hnm := (name_of_methodNamed Bd.named Bd.method).1
  have X0 : Stand p l e ({ frames := 2, cells := 2, slots := 5, locals := 30 } : Room) s m #[(.ref d)] below meth c s₁ [] 0 0 := Stand.of_body Bd
  have e0 : s₁.heap = h0 := by rw [← hh, Bd.state]; rfl
  have N0 := Fr.nil n0
  show OGets p e below (OLeaves s (Q_vo22 Z d x0 x1 h0 n0 F ) ({ frames := 2, cells := 2, slots := 5, locals := 30 } : Room).cells ({ frames := 2, cells := 2, slots := 5, locals := 30 } : Room).slots) _
  refine OGets.enter (ef_vo22 m d) ?_
  show OGets p e below _ (s₁.setTop (mkF m 0 #[rv d, uv] []))
  refine OGets.step (fun _ => XS.aloadN X0.here hx rfl (hb hby dj92m8_0) rfl rfl) ?_
  obtain ⟨cl417, Ar417, S417⟩ := V0.arr 0 rfl
  have ln417 : cl417.slots.size.toInt32 = (2 : Int32) := by rw [own_len S417]; rfl
  refine OGets.step (U' := s₁.setTop (mkF m 2 #[rv d, uv] [(.int (2 : Int32))])) (fun t kt => ?_) ?_
  · refine X0.arraylength hx (by rw [e0]; exact Ar417.1) (State.isArrayOf_alike hZ.alike Ar417.2.1) (g := (mkF m 1 #[rv d, uv] [(.ref d)])) rfl rfl (hb hby dj92m8_1) _ ?_
    rw [ln417]; exact kt
  refine OGets.step (fun _ => XS.istoreN X0.here hx rfl (hb hby dj92m8_2) rfl (l' := #[rv d, iv (2 : Int32)]) rfl) ?_
  refine OGets.step (fun _ => XS.iloadN X0.here hx rfl (hb hby dj92m8_3) rfl) ?_
  refine OGets.step (fun _ => XS.ifNo X0.here hx rfl (hb hby dj92m8_4) rfl ((if0 _ _).trans (tlt (by decide : (0 : Int32) < (2 : Int32))).2.2.2)) ?_
  refine OGets.step (fun _ => XS.aloadN X0.here hx rfl (hb hby dj92m8_7) rfl rfl) ?_
  show OGets p e below _ (s₁.setTop (mkF m 8 #[rv d, iv (2 : Int32)] [(.ref d)]))
  refine OGets.step (fun _ => XS.iloadN X0.here hx rfl (hb hby dj92m8_8) rfl) ?_
  refine OGets.step (fun _ => XS.iconst X0.here hx rfl (hb hby dj92m8_9)) ?_
  refine OGets.step (fun _ => XS.isub X0.here hx rfl (hb hby dj92m8_10) rfl) ?_
  show OGets p e below _ (s₁.setTop (mkF m 11 #[rv d, iv (2 : Int32)] [(.int (1 : Int32)), (.ref d)]))
  obtain ⟨cl419, Ar419, S419⟩ := V0.arr 0 rfl
  refine OGets.step (fun _ => X0.laload hx (j := (1 : Int32)) (v := (.long x1)) (by rw [e0]; exact Ar419.1) (State.isArrayOf_alike hZ.alike Ar419.2.1) Ar419.2.2 (own_inb S419 1 (by decide) (Nat.le_of_ble_eq_true rfl)) (own_get S419 1 (by decide) rfl) (g := (mkF m 11 #[rv d, iv (2 : Int32)] [(.int (1 : Int32)), (.ref d)])) rfl rfl (hb hby dj92m8_11) _) ?_
  refine OGets.step (fun _ => XS.lconst X0.here hx rfl (hb hby dj92m8_12)) ?_
  refine OGets.step (fun _ => XS.lcmp X0.here hx rfl (hb hby dj92m8_13) rfl) ?_
  refine OGets.step (fun _ => XS.ifYes X0.here hx rfl (pc0 := 14) (pc' := 23) rfl (hb hby dj92m8_14) rfl ((if0 _ _).trans (feq (fun q => (z1 : ¬ (x1 = (0 : Int64))) ((lw_eq _ _).mp q))).2) (by decide) (by decide)) ?_
  obtain ⟨T421, h421, X421, e421, E421, A421, D421, -, st421⟩ := newO X0 hx hZ hown (ow hw 74 rfl) (ow hw 75 rfl) (ow hw 72 rfl) e0 (g := (mkF m 23 #[rv d, iv (2 : Int32)] [])) rfl (hb hby dj92m8_23) (by decide) (by decide)
  have V421' := V0.newObj (ns := ns_BitSet) (vs := [(.int (0 : Int32)), (.int (0 : Int32)), .null]) Z0 E421 A421 D421 (lay_ns_BitSet hw) (by decide) (by decide)
  have Z421 : n0 ≤ h421.size := Nat.le_trans Z0 E421.1
  obtain ⟨b421, g421⟩ : ∃ z, z = h0.size := ⟨_, rfl⟩
  rw [← g421] at V421' st421
  have V421 : OView Z n0 h421 (oS b421 [(.int (0 : Int32)), (.int (0 : Int32)), .null] :: oB d [x0, x1] :: F) := V421'
  have O421 := O0.ext E421
  refine OGets.step st421 ?_
  refine OGets.step (fun _ => XS.dup X421.here hx rfl (hb hby dj92m8_26) rfl rfl) ?_
  refine OGets.step (fun _ => XS.aloadN X421.here hx rfl (hb hby dj92m8_27) rfl rfl) ?_
  refine OGets.step (fun _ => XS.iloadN X421.here hx rfl (hb hby dj92m8_28) rfl) ?_
  have V422_ : OView Z _ h421 (oB d [x0, x1] :: oS b421 [(.int (0 : Int32)), (.int (0 : Int32)), .null] :: F) := (V421.bring 1 rfl)
  obtain ⟨_, _, ⟨T422, L422, k422, n422⟩, -, X422, ⟨Lc422, hQ422, l422, y422, z422⟩, st422⟩ := Jvm.LawKit.callS X421 hx (y := (⟨"java/util/Arrays", "copyOf", "([JI)[J"⟩ : MethodName)) hown (mvT hZ (ow hw 76 rfl)) (mvT hZ (ow hw 77 rfl)) (mvT hZ (ow hw 38 rfl)) (mvT hZ (ow hw 78 rfl)) (by decide) (backOf (W := 2) (rm_co22 l Z a0 hw [] d x0 x1 h421 n0 _ Z421  V422_ O421) hZ (ow hw 78 rfl) (ow hw 38 rfl) (by decide) (by decide)) (g := (mkF m 29 #[rv d, iv (2 : Int32)] [(.int (2 : Int32)), (.ref d), (.ref b421), (.ref b421)])) rfl (by rw [hml]; rfl) (argsL := [(.ref d), (.int (2 : Int32))]) (rest := [(.ref b421), (.ref b421)]) (lenOf pd_9 rfl) rfl (by show 2 * 0 + _ ≤ _; exact Nat.le_of_eq rfl) (hb hby dj92m8_29) (fun _ _ => ⟨rfl, e421, Nat.le_of_ble_eq_true rfl, Nat.le_of_ble_eq_true rfl⟩)
  dsimp only [Pt.U, Pt.locs, Pt.cells, Pt.slots] at X422 l422 y422 z422 st422 hQ422
  rw [l422, y422, z422] at X422
  obtain ⟨e422, rfl, N422q, V422, O422q⟩ := hQ422
  have N422 := Fr.app N0 N422q
  have V422v : OView Z n0 T422.heap (oB e422 [x0, x1] :: oB d [x0, x1] :: oS b421 [(.int (0 : Int32)), (.int (0 : Int32)), .null] :: F) := V422
  have Z422 : n0 ≤ T422.heap.size := V422v.big 0 rfl
  refine OGets.step st422 ?_
  have V423_ : OView Z _ T422.heap (oS b421 [(.int (0 : Int32)), (.int (0 : Int32)), .null] :: oB e422 [x0, x1] :: oB d [x0, x1] :: F) := (V422v.bring 2 rfl)
  obtain ⟨_, _, ⟨T423, L423, k423, n423⟩, -, X423, ⟨Lc423, hQ423, l423, y423, z423⟩, st423⟩ := X422.specialBack hx (y := (⟨"java/util/BitSet", "<init>", "([J)V"⟩ : MethodName)) rfl hown (mvT hZ (ow hw 88 rfl)) (mvT hZ (ow hw 89 rfl)) (mvT hZ (ow hw 91 rfl)) (by decide) (backOf (W := 1) (rm_bi2 l Z a0 hw [] b421 e422 x0 x1 T422.heap n0 _ Z422 SA V423_ O422q) hZ (ow hw 91 rfl) (ow hw 72 rfl) (by decide) (by decide)) (g := (mkF m 32 #[rv d, iv (2 : Int32)] [(.ref e422), (.ref b421), (.ref b421)])) rfl (by rw [hml]; rfl) (Steps.refl _) (a := b421) (argsL := [(.ref e422)]) (rest := [(.ref b421)]) (lenOf pd_10 rfl) rfl (by show 2 * 0 + _ ≤ _; exact Nat.le_of_eq rfl) (hb hby dj92m8_32) (fun _ _ => ⟨rfl, rfl, Nat.le_of_ble_eq_true rfl, Nat.le_of_ble_eq_true rfl⟩)
  dsimp only [Pt.U, Pt.locs, Pt.cells, Pt.slots] at X423 l423 y423 z423 st423 hQ423
  rw [l423, y423, z423] at X423
  obtain ⟨rfl, N423q, V423, O423q⟩ := hQ423
  have N423 := Fr.app N422 N423q
  have V423v : OView Z n0 T423.heap (oS b421 [(.int (2 : Int32)), (.int (0 : Int32)), (.ref e422)] :: oB e422 [x0, x1] :: oB d [x0, x1] :: F) := V423
  have Z423 : n0 ≤ T423.heap.size := V423v.big 0 rfl
  refine OGets.after st423 ?_
  refine OGets.retA X423 hx hlk (t := (.object "java/util/BitSet")) Bd.returns rfl rfl rfl (hb hby dj92m8_35) (Nat.le_of_ble_eq_true rfl) (Nat.le_of_ble_eq_true rfl) ?_
  have Vd424 : OView Z _ T423.heap (oS b421 [(.int (2 : Int32)), (.int (0 : Int32)), (.ref e422)] :: oB e422 [x0, x1] :: F) := (V423v.bring 2 rfl).tail
  exact ⟨b421, e422, rfl, N423, Vd424, O423q⟩
theorem d71m15_0 : decode prog_71_method_15_code 0 = .ok (.aload_n 0, 1) := by decide +kernel
theorem d71m15_1 : decode prog_71_method_15_code 1 = .ok (.getfield 31, 3) := by decide +kernel
theorem d71m15_4 : decode prog_71_method_15_code 4 = .ok (.iload_n 1, 1) := by decide +kernel
theorem d71m15_5 : decode prog_71_method_15_code 5 = .ok (.aload_n 0, 1) := by decide +kernel
theorem d71m15_6 : decode prog_71_method_15_code 6 = .ok (.getfield 27, 3) := by decide +kernel
theorem d71m15_9 : decode prog_71_method_15_code 9 = .ok (.imul, 1) := by decide +kernel
theorem d71m15_10 : decode prog_71_method_15_code 10 = .ok (.iload_n 1, 1) := by decide +kernel
theorem d71m15_11 : decode prog_71_method_15_code 11 = .ok (.iconst 1, 1) := by decide +kernel
theorem d71m15_12 : decode prog_71_method_15_code 12 = .ok (.iadd, 1) := by decide +kernel
theorem d71m15_13 : decode prog_71_method_15_code 13 = .ok (.aload_n 0, 1) := by decide +kernel
theorem d71m15_14 : decode prog_71_method_15_code 14 = .ok (.getfield 27, 3) := by decide +kernel
theorem d71m15_17 : decode prog_71_method_15_code 17 = .ok (.imul, 1) := by decide +kernel
theorem d71m15_18 : decode prog_71_method_15_code 18 = .ok (.invokestatic 68, 3) := by decide +kernel
theorem d71m15_21 : decode prog_71_method_15_code 21 = .ok (.invokestatic 72, 3) := by decide +kernel
theorem pd_11 : parseMethodDescriptor "([J)Ljava/util/BitSet;" = some ⟨[(.array .long)], some (.object "java/util/BitSet")⟩ := by decide +kernel
theorem d71m15_24 : decode prog_71_method_15_code 24 = .ok (.areturn, 1) := by decide +kernel
theorem ef_gtd100 (m : MethodId) (x0 : Addr) (x1 : Int32) : entryFrame m #[(.ref x0), (.int x1)] 2 = mkF m 0 #[.val (.ref x0), .val (.int x1)] [] := by first | (simp [entryFrame, mkF, argsToLocals, Value.category]; done) | rfl
def Q_gtd100 (Z : State) (a : Addr) (ap : Addr) (as : Addr) (aq : Addr) (ax : Addr) (ak : Addr) (ag : Addr) (ab : Addr) (GG : List Int64) (h0 : Heap) (n0 : Nat) (F : List (Addr × OObj)) (v : Option Value) (h : Heap) (L : List Loc) : Prop := ∃ u e : Addr, v = some (.ref u) ∧ Fr n0 L ∧ OView Z n0 h (oS u [(.int (0 : Int32)), (.int (0 : Int32)), (.ref e)] :: oB e [] :: oP a [(.ref ap), (.ref as), (.ref aq), (.ref ax), (.ref ak), (.int (1 : Int32)), (.ref ag), (.ref ab), (.int (2 : Int32))] :: oB ag GG :: F) ∧ Old Z n0 h
set_option maxRecDepth 65536 in
set_option maxHeartbeats 40000000 in
theorem rm_gtd100 (l : Launch) (Z : State) (a0 : Array Value) (hw : ∀ d ∈ tables_1, d.before a0 Z = true) (ws : List Jvm.Cond) (a : Addr) (ap : Addr) (as : Addr) (aq : Addr) (ax : Addr) (ak : Addr) (ag : Addr) (ab : Addr) (GG : List Int64) (h0 : Heap) (n0 : Nat) (F : List (Addr × OObj)) (Z0 : n0 ≤ h0.size) (SA : Sta Z Z.heap "java/util/BitSet" "$assertionsDisabled" "Z" (.int (1 : Int32))) (hlG : GG.length = 16) (z0 : (gj GG (0 : Int32)) = (0 : Int64)) (V0 : OView Z n0 h0 (oP a [(.ref ap), (.ref as), (.ref aq), (.ref ax), (.ref ak), (.int (1 : Int32)), (.ref ag), (.ref ab), (.int (2 : Int32))] :: oB ag GG :: F)) (O0 : Old Z n0 h0) :
    MetFree l (⟨"com/example/inya/inya/SearchPath", "gathered", "(I)Ljava/util/BitSet;"⟩ : MethodName) (head1 (Jvm.Cond.code (⟨"com/example/inya/inya/SearchPath", "gathered", "(I)Ljava/util/BitSet;"⟩ : MethodName) prog_71_method_15_code 2 (some (.object "java/util/BitSet")) :: ws) ({ frames := 3, cells := 3, slots := 4, locals := 48 } : Room)) (fun a_ U => a_ = #[(.ref a), (.int (0 : Int32))] ∧ Z.Warmed39 U.vm ∧ U.heap = h0) (fun _ _ _ _ _ => True) (fun _ U o U' => ∃ v L, o = .returned v ∧ Q_gtd100 Z a ap as aq ax ak ag ab GG h0 n0 F v U'.heap L ∧ FrameEnd U o U' L ({ frames := 3, cells := 3, slots := 4, locals := 48 } : Room).cells ({ frames := 3, cells := 3, slots := 4, locals := 48 } : Room).slots) := by
  refine MetFree.of_bodySF (plainFor_of_name pn_0) hisR ?_
  intro p e s m args below meth c s₁ Bd hml0 hP hK
  obtain ⟨rfl, hZ, hh⟩ := hP
  have hx := Bd.exec
  have hby := Bd.bytes
  have hlk : meth.locks = false := Bd.notSynchronized
  have hml : c.maxLocals = 2 := hml0
  have hown : s.vm.findClass "com/example/inya/inya/SearchPath" = some m.cls := findClass_of_methodNamed Bd.named
  have hnm := (name_of_methodNamed Bd.named Bd.method).1
  have X0 : Stand p l e ({ frames := 3, cells := 3, slots := 4, locals := 48 } : Room) s m #[(.ref a), (.int (0 : Int32))] below meth c s₁ [] 0 0 := Stand.of_body Bd
  have e0 : s₁.heap = h0 := by rw [← hh, Bd.state]; rfl
  have N0 := Fr.nil n0
  show OGets p e below (OLeaves s (Q_gtd100 Z a ap as aq ax ak ag ab GG h0 n0 F ) ({ frames := 3, cells := 3, slots := 4, locals := 48 } : Room).cells ({ frames := 3, cells := 3, slots := 4, locals := 48 } : Room).slots) _
  refine OGets.enter (ef_gtd100 m a (0 : Int32)) ?_
  show OGets p e below _ (s₁.setTop (mkF m 0 #[rv a, iv (0 : Int32)] []))
  refine OGets.step (fun _ => XS.aloadN X0.here hx rfl (hb hby d71m15_0) rfl rfl) ?_
  obtain ⟨T425, X425, e425, st425⟩ := getF X0 hx hZ hown (host := "") (Or.inl (ow hw 25 rfl)) Via.refl e0 (V0.fld 0 rfl 6 rfl rfl) (g := (mkF m 1 #[rv a, iv (0 : Int32)] [(.ref a)])) rfl rfl (hb hby d71m15_1)
  refine OGets.step st425 ?_
  refine OGets.step (fun _ => XS.iloadN X425.here hx rfl (hb hby d71m15_4) rfl) ?_
  refine OGets.step (fun _ => XS.aloadN X425.here hx rfl (hb hby d71m15_5) rfl rfl) ?_
  obtain ⟨T426, X426, e426, st426⟩ := getF X425 hx hZ hown (host := "") (Or.inl (ow hw 23 rfl)) Via.refl e425 (V0.fld 0 rfl 5 rfl rfl) (g := (mkF m 6 #[rv a, iv (0 : Int32)] [(.ref a), (.int (0 : Int32)), (.ref ag)])) rfl rfl (hb hby d71m15_6)
  refine OGets.step st426 ?_
  refine OGets.step (fun _ => XS.imul X426.here hx rfl (hb hby d71m15_9) rfl) ?_
  show OGets p e below _ (T426.setTop (mkF m 10 #[rv a, iv (0 : Int32)] [(.int (0 : Int32)), (.ref ag)]))
  refine OGets.step (fun _ => XS.iloadN X426.here hx rfl (hb hby d71m15_10) rfl) ?_
  refine OGets.step (fun _ => XS.iconst X426.here hx rfl (hb hby d71m15_11)) ?_
  refine OGets.step (fun _ => XS.iadd X426.here hx rfl (hb hby d71m15_12) rfl) ?_
  show OGets p e below _ (T426.setTop (mkF m 13 #[rv a, iv (0 : Int32)] [(.int (1 : Int32)), (.int (0 : Int32)), (.ref ag)]))
  refine OGets.step (fun _ => XS.aloadN X426.here hx rfl (hb hby d71m15_13) rfl rfl) ?_
  obtain ⟨T427, X427, e427, st427⟩ := getF X426 hx hZ hown (host := "") (Or.inl (ow hw 23 rfl)) Via.refl e426 (V0.fld 0 rfl 5 rfl rfl) (g := (mkF m 14 #[rv a, iv (0 : Int32)] [(.ref a), (.int (1 : Int32)), (.int (0 : Int32)), (.ref ag)])) rfl rfl (hb hby d71m15_14)
  refine OGets.step st427 ?_
  refine OGets.step (fun _ => XS.imul X427.here hx rfl (hb hby d71m15_17) rfl) ?_
  show OGets p e below _ (T427.setTop (mkF m 18 #[rv a, iv (0 : Int32)] [(.int (1 : Int32)), (.int (0 : Int32)), (.ref ag)]))
  have V428_ : OView Z _ h0 (oB ag GG :: oP a [(.ref ap), (.ref as), (.ref aq), (.ref ax), (.ref ak), (.int (1 : Int32)), (.ref ag), (.ref ab), (.int (2 : Int32))] :: F) := (V0.bring 1 rfl)
  obtain ⟨_, _, ⟨T428, L428, k428, n428⟩, -, X428, ⟨Lc428, hQ428, l428, y428, z428⟩, st428⟩ := Jvm.LawKit.callS X427 hx (y := (⟨"java/util/Arrays", "copyOfRange", "([JII)[J"⟩ : MethodName)) hown (mvT hZ (ow hw 53 rfl)) (mvT hZ (ow hw 54 rfl)) (mvT hZ (ow hw 38 rfl)) (mvT hZ (ow hw 55 rfl)) (by decide) (backOf (W := 0) (rm_cr10 l Z a0 hw [] ag GG h0 n0 _ Z0 (by simp only [sj_len, List.length_replicate, hlG]) V428_ O0) hZ (ow hw 55 rfl) (ow hw 38 rfl) (by decide) (by decide)) (g := (mkF m 18 #[rv a, iv (0 : Int32)] [(.int (1 : Int32)), (.int (0 : Int32)), (.ref ag)])) rfl (by rw [hml]; rfl) (argsL := [(.ref ag), (.int (0 : Int32)), (.int (1 : Int32))]) (rest := []) (lenOf pd_6 rfl) rfl (by show 2 * 0 + _ ≤ _; exact Nat.le_of_eq rfl) (hb hby d71m15_18) (fun _ _ => ⟨rfl, e427, Nat.le_of_ble_eq_true rfl, Nat.le_of_ble_eq_true rfl⟩)
  dsimp only [Pt.U, Pt.locs, Pt.cells, Pt.slots] at X428 l428 y428 z428 st428 hQ428
  rw [l428, y428, z428] at X428
  obtain ⟨d428, rfl, N428q, V428, O428q⟩ := hQ428
  have N428 := Fr.app N0 N428q
  have V428v : OView Z n0 T428.heap (oB d428 [(gj GG (0 : Int32))] :: oB ag GG :: oP a [(.ref ap), (.ref as), (.ref aq), (.ref ax), (.ref ak), (.int (1 : Int32)), (.ref ag), (.ref ab), (.int (2 : Int32))] :: F) := V428
  have Z428 : n0 ≤ T428.heap.size := V428v.big 0 rfl
  refine OGets.step st428 ?_
  obtain ⟨_, _, ⟨T429, L429, k429, n429⟩, -, X429, ⟨Lc429, hQ429, l429, y429, z429⟩, st429⟩ := Jvm.LawKit.callS X428 hx (y := (⟨"java/util/BitSet", "valueOf", "([J)Ljava/util/BitSet;"⟩ : MethodName)) hown (mvT hZ (ow hw 70 rfl)) (mvT hZ (ow hw 71 rfl)) (mvT hZ (ow hw 72 rfl)) (mvT hZ (ow hw 73 rfl)) (by decide) (backOf (W := 0) (rm_vo10 l Z a0 hw [] d428 (gj GG (0 : Int32)) T428.heap n0 _ Z428 SA z0 V428v O428q) hZ (ow hw 73 rfl) (ow hw 72 rfl) (by decide) (by decide)) (g := (mkF m 21 #[rv a, iv (0 : Int32)] [(.ref d428)])) rfl (by rw [hml]; rfl) (argsL := [(.ref d428)]) (rest := []) (lenOf pd_11 rfl) rfl (by show 2 * 0 + _ ≤ _; exact Nat.le_of_eq rfl) (hb hby d71m15_21) (fun _ _ => ⟨rfl, rfl, Nat.le_of_ble_eq_true rfl, Nat.le_of_ble_eq_true rfl⟩)
  dsimp only [Pt.U, Pt.locs, Pt.cells, Pt.slots] at X429 l429 y429 z429 st429 hQ429
  rw [l429, y429, z429] at X429
  obtain ⟨a429, e429, rfl, N429q, V429, O429q⟩ := hQ429
  have N429 := Fr.app N428 N429q
  have V429v : OView Z n0 T429.heap (oS a429 [(.int (0 : Int32)), (.int (0 : Int32)), (.ref e429)] :: oB e429 [] :: oB ag GG :: oP a [(.ref ap), (.ref as), (.ref aq), (.ref ax), (.ref ak), (.int (1 : Int32)), (.ref ag), (.ref ab), (.int (2 : Int32))] :: F) := V429
  have Z429 : n0 ≤ T429.heap.size := V429v.big 0 rfl
  refine OGets.step st429 ?_
  refine OGets.retA X429 hx hlk (t := (.object "java/util/BitSet")) Bd.returns rfl rfl rfl (hb hby d71m15_24) (Nat.le_of_ble_eq_true rfl) (Nat.le_of_ble_eq_true rfl) ?_
  have Vp430 : OView Z _ T429.heap (oS a429 [(.int (0 : Int32)), (.int (0 : Int32)), (.ref e429)] :: oB e429 [] :: oP a [(.ref ap), (.ref as), (.ref aq), (.ref ax), (.ref ak), (.int (1 : Int32)), (.ref ag), (.ref ab), (.int (2 : Int32))] :: oB ag GG :: F) := (((V429v.bring 3 rfl).bring 2 rfl).bring 2 rfl)
  exact ⟨a429, e429, rfl, N429, Vp430, O429q⟩
theorem ef_gtd101 (m : MethodId) (x0 : Addr) (x1 : Int32) : entryFrame m #[(.ref x0), (.int x1)] 2 = mkF m 0 #[.val (.ref x0), .val (.int x1)] [] := by first | (simp [entryFrame, mkF, argsToLocals, Value.category]; done) | rfl
def Q_gtd101 (Z : State) (a : Addr) (ap : Addr) (as : Addr) (aq : Addr) (ax : Addr) (ak : Addr) (ag : Addr) (ab : Addr) (GG : List Int64) (h0 : Heap) (n0 : Nat) (F : List (Addr × OObj)) (v : Option Value) (h : Heap) (L : List Loc) : Prop := ∃ u e : Addr, v = some (.ref u) ∧ Fr n0 L ∧ OView Z n0 h (oS u [(.int (1 : Int32)), (.int (0 : Int32)), (.ref e)] :: oB e [(gj GG (0 : Int32))] :: oP a [(.ref ap), (.ref as), (.ref aq), (.ref ax), (.ref ak), (.int (1 : Int32)), (.ref ag), (.ref ab), (.int (2 : Int32))] :: oB ag GG :: F) ∧ Old Z n0 h
set_option maxRecDepth 65536 in
set_option maxHeartbeats 40000000 in
theorem rm_gtd101 (l : Launch) (Z : State) (a0 : Array Value) (hw : ∀ d ∈ tables_1, d.before a0 Z = true) (ws : List Jvm.Cond) (a : Addr) (ap : Addr) (as : Addr) (aq : Addr) (ax : Addr) (ak : Addr) (ag : Addr) (ab : Addr) (GG : List Int64) (h0 : Heap) (n0 : Nat) (F : List (Addr × OObj)) (Z0 : n0 ≤ h0.size) (SA : Sta Z Z.heap "java/util/BitSet" "$assertionsDisabled" "Z" (.int (1 : Int32))) (hlG : GG.length = 16) (z0 : ¬ (gj GG (0 : Int32)) = (0 : Int64)) (V0 : OView Z n0 h0 (oP a [(.ref ap), (.ref as), (.ref aq), (.ref ax), (.ref ak), (.int (1 : Int32)), (.ref ag), (.ref ab), (.int (2 : Int32))] :: oB ag GG :: F)) (O0 : Old Z n0 h0) :
    MetFree l (⟨"com/example/inya/inya/SearchPath", "gathered", "(I)Ljava/util/BitSet;"⟩ : MethodName) (head1 (Jvm.Cond.code (⟨"com/example/inya/inya/SearchPath", "gathered", "(I)Ljava/util/BitSet;"⟩ : MethodName) prog_71_method_15_code 2 (some (.object "java/util/BitSet")) :: ws) ({ frames := 3, cells := 3, slots := 5, locals := 48 } : Room)) (fun a_ U => a_ = #[(.ref a), (.int (0 : Int32))] ∧ Z.Warmed39 U.vm ∧ U.heap = h0) (fun _ _ _ _ _ => True) (fun _ U o U' => ∃ v L, o = .returned v ∧ Q_gtd101 Z a ap as aq ax ak ag ab GG h0 n0 F v U'.heap L ∧ FrameEnd U o U' L ({ frames := 3, cells := 3, slots := 5, locals := 48 } : Room).cells ({ frames := 3, cells := 3, slots := 5, locals := 48 } : Room).slots) := by
  refine MetFree.of_bodySF (plainFor_of_name pn_0) hisR ?_
  intro p e s m args below meth c s₁ Bd hml0 hP hK
  obtain ⟨rfl, hZ, hh⟩ := hP
  have hx := Bd.exec
  have hby := Bd.bytes
  have hlk : meth.locks = false := Bd.notSynchronized
  have hml : c.maxLocals = 2 := hml0
  have hown : s.vm.findClass "com/example/inya/inya/SearchPath" = some m.cls := findClass_of_methodNamed Bd.named
  have hnm := (name_of_methodNamed Bd.named Bd.method).1
  have X0 : Stand p l e ({ frames := 3, cells := 3, slots := 5, locals := 48 } : Room) s m #[(.ref a), (.int (0 : Int32))] below meth c s₁ [] 0 0 := Stand.of_body Bd
  have e0 : s₁.heap = h0 := by rw [← hh, Bd.state]; rfl
  have N0 := Fr.nil n0
  show OGets p e below (OLeaves s (Q_gtd101 Z a ap as aq ax ak ag ab GG h0 n0 F ) ({ frames := 3, cells := 3, slots := 5, locals := 48 } : Room).cells ({ frames := 3, cells := 3, slots := 5, locals := 48 } : Room).slots) _
  refine OGets.enter (ef_gtd101 m a (0 : Int32)) ?_
  show OGets p e below _ (s₁.setTop (mkF m 0 #[rv a, iv (0 : Int32)] []))
  refine OGets.step (fun _ => XS.aloadN X0.here hx rfl (hb hby d71m15_0) rfl rfl) ?_
  obtain ⟨T431, X431, e431, st431⟩ := getF X0 hx hZ hown (host := "") (Or.inl (ow hw 25 rfl)) Via.refl e0 (V0.fld 0 rfl 6 rfl rfl) (g := (mkF m 1 #[rv a, iv (0 : Int32)] [(.ref a)])) rfl rfl (hb hby d71m15_1)
  refine OGets.step st431 ?_
  refine OGets.step (fun _ => XS.iloadN X431.here hx rfl (hb hby d71m15_4) rfl) ?_
  refine OGets.step (fun _ => XS.aloadN X431.here hx rfl (hb hby d71m15_5) rfl rfl) ?_
  obtain ⟨T432, X432, e432, st432⟩ := getF X431 hx hZ hown (host := "") (Or.inl (ow hw 23 rfl)) Via.refl e431 (V0.fld 0 rfl 5 rfl rfl) (g := (mkF m 6 #[rv a, iv (0 : Int32)] [(.ref a), (.int (0 : Int32)), (.ref ag)])) rfl rfl (hb hby d71m15_6)
  refine OGets.step st432 ?_
  refine OGets.step (fun _ => XS.imul X432.here hx rfl (hb hby d71m15_9) rfl) ?_
  show OGets p e below _ (T432.setTop (mkF m 10 #[rv a, iv (0 : Int32)] [(.int (0 : Int32)), (.ref ag)]))
  refine OGets.step (fun _ => XS.iloadN X432.here hx rfl (hb hby d71m15_10) rfl) ?_
  refine OGets.step (fun _ => XS.iconst X432.here hx rfl (hb hby d71m15_11)) ?_
  refine OGets.step (fun _ => XS.iadd X432.here hx rfl (hb hby d71m15_12) rfl) ?_
  show OGets p e below _ (T432.setTop (mkF m 13 #[rv a, iv (0 : Int32)] [(.int (1 : Int32)), (.int (0 : Int32)), (.ref ag)]))
  refine OGets.step (fun _ => XS.aloadN X432.here hx rfl (hb hby d71m15_13) rfl rfl) ?_
  obtain ⟨T433, X433, e433, st433⟩ := getF X432 hx hZ hown (host := "") (Or.inl (ow hw 23 rfl)) Via.refl e432 (V0.fld 0 rfl 5 rfl rfl) (g := (mkF m 14 #[rv a, iv (0 : Int32)] [(.ref a), (.int (1 : Int32)), (.int (0 : Int32)), (.ref ag)])) rfl rfl (hb hby d71m15_14)
  refine OGets.step st433 ?_
  refine OGets.step (fun _ => XS.imul X433.here hx rfl (hb hby d71m15_17) rfl) ?_
  show OGets p e below _ (T433.setTop (mkF m 18 #[rv a, iv (0 : Int32)] [(.int (1 : Int32)), (.int (0 : Int32)), (.ref ag)]))
  have V434_ : OView Z _ h0 (oB ag GG :: oP a [(.ref ap), (.ref as), (.ref aq), (.ref ax), (.ref ak), (.int (1 : Int32)), (.ref ag), (.ref ab), (.int (2 : Int32))] :: F) := (V0.bring 1 rfl)
  obtain ⟨_, _, ⟨T434, L434, k434, n434⟩, -, X434, ⟨Lc434, hQ434, l434, y434, z434⟩, st434⟩ := Jvm.LawKit.callS X433 hx (y := (⟨"java/util/Arrays", "copyOfRange", "([JII)[J"⟩ : MethodName)) hown (mvT hZ (ow hw 53 rfl)) (mvT hZ (ow hw 54 rfl)) (mvT hZ (ow hw 38 rfl)) (mvT hZ (ow hw 55 rfl)) (by decide) (backOf (W := 0) (rm_cr10 l Z a0 hw [] ag GG h0 n0 _ Z0 (by simp only [sj_len, List.length_replicate, hlG]) V434_ O0) hZ (ow hw 55 rfl) (ow hw 38 rfl) (by decide) (by decide)) (g := (mkF m 18 #[rv a, iv (0 : Int32)] [(.int (1 : Int32)), (.int (0 : Int32)), (.ref ag)])) rfl (by rw [hml]; rfl) (argsL := [(.ref ag), (.int (0 : Int32)), (.int (1 : Int32))]) (rest := []) (lenOf pd_6 rfl) rfl (by show 2 * 0 + _ ≤ _; exact Nat.le_of_eq rfl) (hb hby d71m15_18) (fun _ _ => ⟨rfl, e433, Nat.le_of_ble_eq_true rfl, Nat.le_of_ble_eq_true rfl⟩)
  dsimp only [Pt.U, Pt.locs, Pt.cells, Pt.slots] at X434 l434 y434 z434 st434 hQ434
  rw [l434, y434, z434] at X434
  obtain ⟨d434, rfl, N434q, V434, O434q⟩ := hQ434
  have N434 := Fr.app N0 N434q
  have V434v : OView Z n0 T434.heap (oB d434 [(gj GG (0 : Int32))] :: oB ag GG :: oP a [(.ref ap), (.ref as), (.ref aq), (.ref ax), (.ref ak), (.int (1 : Int32)), (.ref ag), (.ref ab), (.int (2 : Int32))] :: F) := V434
  have Z434 : n0 ≤ T434.heap.size := V434v.big 0 rfl
  refine OGets.step st434 ?_
  obtain ⟨_, _, ⟨T435, L435, k435, n435⟩, -, X435, ⟨Lc435, hQ435, l435, y435, z435⟩, st435⟩ := Jvm.LawKit.callS X434 hx (y := (⟨"java/util/BitSet", "valueOf", "([J)Ljava/util/BitSet;"⟩ : MethodName)) hown (mvT hZ (ow hw 70 rfl)) (mvT hZ (ow hw 71 rfl)) (mvT hZ (ow hw 72 rfl)) (mvT hZ (ow hw 73 rfl)) (by decide) (backOf (W := 0) (rm_vo11 l Z a0 hw [] d434 (gj GG (0 : Int32)) T434.heap n0 _ Z434 SA z0 V434v O434q) hZ (ow hw 73 rfl) (ow hw 72 rfl) (by decide) (by decide)) (g := (mkF m 21 #[rv a, iv (0 : Int32)] [(.ref d434)])) rfl (by rw [hml]; rfl) (argsL := [(.ref d434)]) (rest := []) (lenOf pd_11 rfl) rfl (by show 2 * 0 + _ ≤ _; exact Nat.le_of_eq rfl) (hb hby d71m15_21) (fun _ _ => ⟨rfl, rfl, Nat.le_of_ble_eq_true rfl, Nat.le_of_ble_eq_true rfl⟩)
  dsimp only [Pt.U, Pt.locs, Pt.cells, Pt.slots] at X435 l435 y435 z435 st435 hQ435
  rw [l435, y435, z435] at X435
  obtain ⟨a435, e435, rfl, N435q, V435, O435q⟩ := hQ435
  have N435 := Fr.app N434 N435q
  have V435v : OView Z n0 T435.heap (oS a435 [(.int (1 : Int32)), (.int (0 : Int32)), (.ref e435)] :: oB e435 [(gj GG (0 : Int32))] :: oB ag GG :: oP a [(.ref ap), (.ref as), (.ref aq), (.ref ax), (.ref ak), (.int (1 : Int32)), (.ref ag), (.ref ab), (.int (2 : Int32))] :: F) := V435
  have Z435 : n0 ≤ T435.heap.size := V435v.big 0 rfl
  refine OGets.step st435 ?_
  refine OGets.retA X435 hx hlk (t := (.object "java/util/BitSet")) Bd.returns rfl rfl rfl (hb hby d71m15_24) (Nat.le_of_ble_eq_true rfl) (Nat.le_of_ble_eq_true rfl) ?_
  have Vp436 : OView Z _ T435.heap (oS a435 [(.int (1 : Int32)), (.int (0 : Int32)), (.ref e435)] :: oB e435 [(gj GG (0 : Int32))] :: oP a [(.ref ap), (.ref as), (.ref aq), (.ref ax), (.ref ak), (.int (1 : Int32)), (.ref ag), (.ref ab), (.int (2 : Int32))] :: oB ag GG :: F) := (((V435v.bring 3 rfl).bring 2 rfl).bring 2 rfl)
  exact ⟨a435, e435, rfl, N435, Vp436, O435q⟩
theorem ef_gtd110 (m : MethodId) (x0 : Addr) (x1 : Int32) : entryFrame m #[(.ref x0), (.int x1)] 2 = mkF m 0 #[.val (.ref x0), .val (.int x1)] [] := by first | (simp [entryFrame, mkF, argsToLocals, Value.category]; done) | rfl
def Q_gtd110 (Z : State) (a : Addr) (ap : Addr) (as : Addr) (aq : Addr) (ax : Addr) (ak : Addr) (ag : Addr) (ab : Addr) (GG : List Int64) (h0 : Heap) (n0 : Nat) (F : List (Addr × OObj)) (v : Option Value) (h : Heap) (L : List Loc) : Prop := ∃ u e : Addr, v = some (.ref u) ∧ Fr n0 L ∧ OView Z n0 h (oS u [(.int (0 : Int32)), (.int (0 : Int32)), (.ref e)] :: oB e [] :: oP a [(.ref ap), (.ref as), (.ref aq), (.ref ax), (.ref ak), (.int (1 : Int32)), (.ref ag), (.ref ab), (.int (2 : Int32))] :: oB ag GG :: F) ∧ Old Z n0 h
set_option maxRecDepth 65536 in
set_option maxHeartbeats 40000000 in
theorem rm_gtd110 (l : Launch) (Z : State) (a0 : Array Value) (hw : ∀ d ∈ tables_1, d.before a0 Z = true) (ws : List Jvm.Cond) (a : Addr) (ap : Addr) (as : Addr) (aq : Addr) (ax : Addr) (ak : Addr) (ag : Addr) (ab : Addr) (GG : List Int64) (h0 : Heap) (n0 : Nat) (F : List (Addr × OObj)) (Z0 : n0 ≤ h0.size) (SA : Sta Z Z.heap "java/util/BitSet" "$assertionsDisabled" "Z" (.int (1 : Int32))) (hlG : GG.length = 16) (z0 : (gj GG (1 : Int32)) = (0 : Int64)) (V0 : OView Z n0 h0 (oP a [(.ref ap), (.ref as), (.ref aq), (.ref ax), (.ref ak), (.int (1 : Int32)), (.ref ag), (.ref ab), (.int (2 : Int32))] :: oB ag GG :: F)) (O0 : Old Z n0 h0) :
    MetFree l (⟨"com/example/inya/inya/SearchPath", "gathered", "(I)Ljava/util/BitSet;"⟩ : MethodName) (head1 (Jvm.Cond.code (⟨"com/example/inya/inya/SearchPath", "gathered", "(I)Ljava/util/BitSet;"⟩ : MethodName) prog_71_method_15_code 2 (some (.object "java/util/BitSet")) :: ws) ({ frames := 3, cells := 3, slots := 4, locals := 48 } : Room)) (fun a_ U => a_ = #[(.ref a), (.int (1 : Int32))] ∧ Z.Warmed39 U.vm ∧ U.heap = h0) (fun _ _ _ _ _ => True) (fun _ U o U' => ∃ v L, o = .returned v ∧ Q_gtd110 Z a ap as aq ax ak ag ab GG h0 n0 F v U'.heap L ∧ FrameEnd U o U' L ({ frames := 3, cells := 3, slots := 4, locals := 48 } : Room).cells ({ frames := 3, cells := 3, slots := 4, locals := 48 } : Room).slots) := by
  refine MetFree.of_bodySF (plainFor_of_name pn_0) hisR ?_
  intro p e s m args below meth c s₁ Bd hml0 hP hK
  obtain ⟨rfl, hZ, hh⟩ := hP
  have hx := Bd.exec
  have hby := Bd.bytes
  have hlk : meth.locks = false := Bd.notSynchronized
  have hml : c.maxLocals = 2 := hml0
  have hown : s.vm.findClass "com/example/inya/inya/SearchPath" = some m.cls := findClass_of_methodNamed Bd.named
  have hnm := (name_of_methodNamed Bd.named Bd.method).1
  have X0 : Stand p l e ({ frames := 3, cells := 3, slots := 4, locals := 48 } : Room) s m #[(.ref a), (.int (1 : Int32))] below meth c s₁ [] 0 0 := Stand.of_body Bd
  have e0 : s₁.heap = h0 := by rw [← hh, Bd.state]; rfl
  have N0 := Fr.nil n0
  show OGets p e below (OLeaves s (Q_gtd110 Z a ap as aq ax ak ag ab GG h0 n0 F ) ({ frames := 3, cells := 3, slots := 4, locals := 48 } : Room).cells ({ frames := 3, cells := 3, slots := 4, locals := 48 } : Room).slots) _
  refine OGets.enter (ef_gtd110 m a (1 : Int32)) ?_
  show OGets p e below _ (s₁.setTop (mkF m 0 #[rv a, iv (1 : Int32)] []))
  refine OGets.step (fun _ => XS.aloadN X0.here hx rfl (hb hby d71m15_0) rfl rfl) ?_
  obtain ⟨T437, X437, e437, st437⟩ := getF X0 hx hZ hown (host := "") (Or.inl (ow hw 25 rfl)) Via.refl e0 (V0.fld 0 rfl 6 rfl rfl) (g := (mkF m 1 #[rv a, iv (1 : Int32)] [(.ref a)])) rfl rfl (hb hby d71m15_1)
  refine OGets.step st437 ?_
  refine OGets.step (fun _ => XS.iloadN X437.here hx rfl (hb hby d71m15_4) rfl) ?_
  refine OGets.step (fun _ => XS.aloadN X437.here hx rfl (hb hby d71m15_5) rfl rfl) ?_
  obtain ⟨T438, X438, e438, st438⟩ := getF X437 hx hZ hown (host := "") (Or.inl (ow hw 23 rfl)) Via.refl e437 (V0.fld 0 rfl 5 rfl rfl) (g := (mkF m 6 #[rv a, iv (1 : Int32)] [(.ref a), (.int (1 : Int32)), (.ref ag)])) rfl rfl (hb hby d71m15_6)
  refine OGets.step st438 ?_
  refine OGets.step (fun _ => XS.imul X438.here hx rfl (hb hby d71m15_9) rfl) ?_
  show OGets p e below _ (T438.setTop (mkF m 10 #[rv a, iv (1 : Int32)] [(.int (1 : Int32)), (.ref ag)]))
  refine OGets.step (fun _ => XS.iloadN X438.here hx rfl (hb hby d71m15_10) rfl) ?_
  refine OGets.step (fun _ => XS.iconst X438.here hx rfl (hb hby d71m15_11)) ?_
  refine OGets.step (fun _ => XS.iadd X438.here hx rfl (hb hby d71m15_12) rfl) ?_
  show OGets p e below _ (T438.setTop (mkF m 13 #[rv a, iv (1 : Int32)] [(.int (2 : Int32)), (.int (1 : Int32)), (.ref ag)]))
  refine OGets.step (fun _ => XS.aloadN X438.here hx rfl (hb hby d71m15_13) rfl rfl) ?_
  obtain ⟨T439, X439, e439, st439⟩ := getF X438 hx hZ hown (host := "") (Or.inl (ow hw 23 rfl)) Via.refl e438 (V0.fld 0 rfl 5 rfl rfl) (g := (mkF m 14 #[rv a, iv (1 : Int32)] [(.ref a), (.int (2 : Int32)), (.int (1 : Int32)), (.ref ag)])) rfl rfl (hb hby d71m15_14)
  refine OGets.step st439 ?_
  refine OGets.step (fun _ => XS.imul X439.here hx rfl (hb hby d71m15_17) rfl) ?_
  show OGets p e below _ (T439.setTop (mkF m 18 #[rv a, iv (1 : Int32)] [(.int (2 : Int32)), (.int (1 : Int32)), (.ref ag)]))
  have V440_ : OView Z _ h0 (oB ag GG :: oP a [(.ref ap), (.ref as), (.ref aq), (.ref ax), (.ref ak), (.int (1 : Int32)), (.ref ag), (.ref ab), (.int (2 : Int32))] :: F) := (V0.bring 1 rfl)
  obtain ⟨_, _, ⟨T440, L440, k440, n440⟩, -, X440, ⟨Lc440, hQ440, l440, y440, z440⟩, st440⟩ := Jvm.LawKit.callS X439 hx (y := (⟨"java/util/Arrays", "copyOfRange", "([JII)[J"⟩ : MethodName)) hown (mvT hZ (ow hw 53 rfl)) (mvT hZ (ow hw 54 rfl)) (mvT hZ (ow hw 38 rfl)) (mvT hZ (ow hw 55 rfl)) (by decide) (backOf (W := 0) (rm_cr11 l Z a0 hw [] ag GG h0 n0 _ Z0 (by simp only [sj_len, List.length_replicate, hlG]) V440_ O0) hZ (ow hw 55 rfl) (ow hw 38 rfl) (by decide) (by decide)) (g := (mkF m 18 #[rv a, iv (1 : Int32)] [(.int (2 : Int32)), (.int (1 : Int32)), (.ref ag)])) rfl (by rw [hml]; rfl) (argsL := [(.ref ag), (.int (1 : Int32)), (.int (2 : Int32))]) (rest := []) (lenOf pd_6 rfl) rfl (by show 2 * 0 + _ ≤ _; exact Nat.le_of_eq rfl) (hb hby d71m15_18) (fun _ _ => ⟨rfl, e439, Nat.le_of_ble_eq_true rfl, Nat.le_of_ble_eq_true rfl⟩)
  dsimp only [Pt.U, Pt.locs, Pt.cells, Pt.slots] at X440 l440 y440 z440 st440 hQ440
  rw [l440, y440, z440] at X440
  obtain ⟨d440, rfl, N440q, V440, O440q⟩ := hQ440
  have N440 := Fr.app N0 N440q
  have V440v : OView Z n0 T440.heap (oB d440 [(gj GG (1 : Int32))] :: oB ag GG :: oP a [(.ref ap), (.ref as), (.ref aq), (.ref ax), (.ref ak), (.int (1 : Int32)), (.ref ag), (.ref ab), (.int (2 : Int32))] :: F) := V440
  have Z440 : n0 ≤ T440.heap.size := V440v.big 0 rfl
  refine OGets.step st440 ?_
  obtain ⟨_, _, ⟨T441, L441, k441, n441⟩, -, X441, ⟨Lc441, hQ441, l441, y441, z441⟩, st441⟩ := Jvm.LawKit.callS X440 hx (y := (⟨"java/util/BitSet", "valueOf", "([J)Ljava/util/BitSet;"⟩ : MethodName)) hown (mvT hZ (ow hw 70 rfl)) (mvT hZ (ow hw 71 rfl)) (mvT hZ (ow hw 72 rfl)) (mvT hZ (ow hw 73 rfl)) (by decide) (backOf (W := 0) (rm_vo10 l Z a0 hw [] d440 (gj GG (1 : Int32)) T440.heap n0 _ Z440 SA z0 V440v O440q) hZ (ow hw 73 rfl) (ow hw 72 rfl) (by decide) (by decide)) (g := (mkF m 21 #[rv a, iv (1 : Int32)] [(.ref d440)])) rfl (by rw [hml]; rfl) (argsL := [(.ref d440)]) (rest := []) (lenOf pd_11 rfl) rfl (by show 2 * 0 + _ ≤ _; exact Nat.le_of_eq rfl) (hb hby d71m15_21) (fun _ _ => ⟨rfl, rfl, Nat.le_of_ble_eq_true rfl, Nat.le_of_ble_eq_true rfl⟩)
  dsimp only [Pt.U, Pt.locs, Pt.cells, Pt.slots] at X441 l441 y441 z441 st441 hQ441
  rw [l441, y441, z441] at X441
  obtain ⟨a441, e441, rfl, N441q, V441, O441q⟩ := hQ441
  have N441 := Fr.app N440 N441q
  have V441v : OView Z n0 T441.heap (oS a441 [(.int (0 : Int32)), (.int (0 : Int32)), (.ref e441)] :: oB e441 [] :: oB ag GG :: oP a [(.ref ap), (.ref as), (.ref aq), (.ref ax), (.ref ak), (.int (1 : Int32)), (.ref ag), (.ref ab), (.int (2 : Int32))] :: F) := V441
  have Z441 : n0 ≤ T441.heap.size := V441v.big 0 rfl
  refine OGets.step st441 ?_
  refine OGets.retA X441 hx hlk (t := (.object "java/util/BitSet")) Bd.returns rfl rfl rfl (hb hby d71m15_24) (Nat.le_of_ble_eq_true rfl) (Nat.le_of_ble_eq_true rfl) ?_
  have Vp442 : OView Z _ T441.heap (oS a441 [(.int (0 : Int32)), (.int (0 : Int32)), (.ref e441)] :: oB e441 [] :: oP a [(.ref ap), (.ref as), (.ref aq), (.ref ax), (.ref ak), (.int (1 : Int32)), (.ref ag), (.ref ab), (.int (2 : Int32))] :: oB ag GG :: F) := (((V441v.bring 3 rfl).bring 2 rfl).bring 2 rfl)
  exact ⟨a441, e441, rfl, N441, Vp442, O441q⟩
theorem ef_gtd111 (m : MethodId) (x0 : Addr) (x1 : Int32) : entryFrame m #[(.ref x0), (.int x1)] 2 = mkF m 0 #[.val (.ref x0), .val (.int x1)] [] := by first | (simp [entryFrame, mkF, argsToLocals, Value.category]; done) | rfl
def Q_gtd111 (Z : State) (a : Addr) (ap : Addr) (as : Addr) (aq : Addr) (ax : Addr) (ak : Addr) (ag : Addr) (ab : Addr) (GG : List Int64) (h0 : Heap) (n0 : Nat) (F : List (Addr × OObj)) (v : Option Value) (h : Heap) (L : List Loc) : Prop := ∃ u e : Addr, v = some (.ref u) ∧ Fr n0 L ∧ OView Z n0 h (oS u [(.int (1 : Int32)), (.int (0 : Int32)), (.ref e)] :: oB e [(gj GG (1 : Int32))] :: oP a [(.ref ap), (.ref as), (.ref aq), (.ref ax), (.ref ak), (.int (1 : Int32)), (.ref ag), (.ref ab), (.int (2 : Int32))] :: oB ag GG :: F) ∧ Old Z n0 h
set_option maxRecDepth 65536 in
set_option maxHeartbeats 40000000 in
theorem rm_gtd111 (l : Launch) (Z : State) (a0 : Array Value) (hw : ∀ d ∈ tables_1, d.before a0 Z = true) (ws : List Jvm.Cond) (a : Addr) (ap : Addr) (as : Addr) (aq : Addr) (ax : Addr) (ak : Addr) (ag : Addr) (ab : Addr) (GG : List Int64) (h0 : Heap) (n0 : Nat) (F : List (Addr × OObj)) (Z0 : n0 ≤ h0.size) (SA : Sta Z Z.heap "java/util/BitSet" "$assertionsDisabled" "Z" (.int (1 : Int32))) (hlG : GG.length = 16) (z0 : ¬ (gj GG (1 : Int32)) = (0 : Int64)) (V0 : OView Z n0 h0 (oP a [(.ref ap), (.ref as), (.ref aq), (.ref ax), (.ref ak), (.int (1 : Int32)), (.ref ag), (.ref ab), (.int (2 : Int32))] :: oB ag GG :: F)) (O0 : Old Z n0 h0) :
    MetFree l (⟨"com/example/inya/inya/SearchPath", "gathered", "(I)Ljava/util/BitSet;"⟩ : MethodName) (head1 (Jvm.Cond.code (⟨"com/example/inya/inya/SearchPath", "gathered", "(I)Ljava/util/BitSet;"⟩ : MethodName) prog_71_method_15_code 2 (some (.object "java/util/BitSet")) :: ws) ({ frames := 3, cells := 3, slots := 5, locals := 48 } : Room)) (fun a_ U => a_ = #[(.ref a), (.int (1 : Int32))] ∧ Z.Warmed39 U.vm ∧ U.heap = h0) (fun _ _ _ _ _ => True) (fun _ U o U' => ∃ v L, o = .returned v ∧ Q_gtd111 Z a ap as aq ax ak ag ab GG h0 n0 F v U'.heap L ∧ FrameEnd U o U' L ({ frames := 3, cells := 3, slots := 5, locals := 48 } : Room).cells ({ frames := 3, cells := 3, slots := 5, locals := 48 } : Room).slots) := by
  refine MetFree.of_bodySF (plainFor_of_name pn_0) hisR ?_
  intro p e s m args below meth c s₁ Bd hml0 hP hK
  obtain ⟨rfl, hZ, hh⟩ := hP
  have hx := Bd.exec
  have hby := Bd.bytes
  have hlk : meth.locks = false := Bd.notSynchronized
  have hml : c.maxLocals = 2 := hml0
  have hown : s.vm.findClass "com/example/inya/inya/SearchPath" = some m.cls := findClass_of_methodNamed Bd.named
  have hnm := (name_of_methodNamed Bd.named Bd.method).1
  have X0 : Stand p l e ({ frames := 3, cells := 3, slots := 5, locals := 48 } : Room) s m #[(.ref a), (.int (1 : Int32))] below meth c s₁ [] 0 0 := Stand.of_body Bd
  have e0 : s₁.heap = h0 := by rw [← hh, Bd.state]; rfl
  have N0 := Fr.nil n0
  show OGets p e below (OLeaves s (Q_gtd111 Z a ap as aq ax ak ag ab GG h0 n0 F ) ({ frames := 3, cells := 3, slots := 5, locals := 48 } : Room).cells ({ frames := 3, cells := 3, slots := 5, locals := 48 } : Room).slots) _
  refine OGets.enter (ef_gtd111 m a (1 : Int32)) ?_
  show OGets p e below _ (s₁.setTop (mkF m 0 #[rv a, iv (1 : Int32)] []))
  refine OGets.step (fun _ => XS.aloadN X0.here hx rfl (hb hby d71m15_0) rfl rfl) ?_
  obtain ⟨T443, X443, e443, st443⟩ := getF X0 hx hZ hown (host := "") (Or.inl (ow hw 25 rfl)) Via.refl e0 (V0.fld 0 rfl 6 rfl rfl) (g := (mkF m 1 #[rv a, iv (1 : Int32)] [(.ref a)])) rfl rfl (hb hby d71m15_1)
  refine OGets.step st443 ?_
  refine OGets.step (fun _ => XS.iloadN X443.here hx rfl (hb hby d71m15_4) rfl) ?_
  refine OGets.step (fun _ => XS.aloadN X443.here hx rfl (hb hby d71m15_5) rfl rfl) ?_
  obtain ⟨T444, X444, e444, st444⟩ := getF X443 hx hZ hown (host := "") (Or.inl (ow hw 23 rfl)) Via.refl e443 (V0.fld 0 rfl 5 rfl rfl) (g := (mkF m 6 #[rv a, iv (1 : Int32)] [(.ref a), (.int (1 : Int32)), (.ref ag)])) rfl rfl (hb hby d71m15_6)
  refine OGets.step st444 ?_
  refine OGets.step (fun _ => XS.imul X444.here hx rfl (hb hby d71m15_9) rfl) ?_
  show OGets p e below _ (T444.setTop (mkF m 10 #[rv a, iv (1 : Int32)] [(.int (1 : Int32)), (.ref ag)]))
  refine OGets.step (fun _ => XS.iloadN X444.here hx rfl (hb hby d71m15_10) rfl) ?_
  refine OGets.step (fun _ => XS.iconst X444.here hx rfl (hb hby d71m15_11)) ?_
  refine OGets.step (fun _ => XS.iadd X444.here hx rfl (hb hby d71m15_12) rfl) ?_
  show OGets p e below _ (T444.setTop (mkF m 13 #[rv a, iv (1 : Int32)] [(.int (2 : Int32)), (.int (1 : Int32)), (.ref ag)]))
  refine OGets.step (fun _ => XS.aloadN X444.here hx rfl (hb hby d71m15_13) rfl rfl) ?_
  obtain ⟨T445, X445, e445, st445⟩ := getF X444 hx hZ hown (host := "") (Or.inl (ow hw 23 rfl)) Via.refl e444 (V0.fld 0 rfl 5 rfl rfl) (g := (mkF m 14 #[rv a, iv (1 : Int32)] [(.ref a), (.int (2 : Int32)), (.int (1 : Int32)), (.ref ag)])) rfl rfl (hb hby d71m15_14)
  refine OGets.step st445 ?_
  refine OGets.step (fun _ => XS.imul X445.here hx rfl (hb hby d71m15_17) rfl) ?_
  show OGets p e below _ (T445.setTop (mkF m 18 #[rv a, iv (1 : Int32)] [(.int (2 : Int32)), (.int (1 : Int32)), (.ref ag)]))
  have V446_ : OView Z _ h0 (oB ag GG :: oP a [(.ref ap), (.ref as), (.ref aq), (.ref ax), (.ref ak), (.int (1 : Int32)), (.ref ag), (.ref ab), (.int (2 : Int32))] :: F) := (V0.bring 1 rfl)
  obtain ⟨_, _, ⟨T446, L446, k446, n446⟩, -, X446, ⟨Lc446, hQ446, l446, y446, z446⟩, st446⟩ := Jvm.LawKit.callS X445 hx (y := (⟨"java/util/Arrays", "copyOfRange", "([JII)[J"⟩ : MethodName)) hown (mvT hZ (ow hw 53 rfl)) (mvT hZ (ow hw 54 rfl)) (mvT hZ (ow hw 38 rfl)) (mvT hZ (ow hw 55 rfl)) (by decide) (backOf (W := 0) (rm_cr11 l Z a0 hw [] ag GG h0 n0 _ Z0 (by simp only [sj_len, List.length_replicate, hlG]) V446_ O0) hZ (ow hw 55 rfl) (ow hw 38 rfl) (by decide) (by decide)) (g := (mkF m 18 #[rv a, iv (1 : Int32)] [(.int (2 : Int32)), (.int (1 : Int32)), (.ref ag)])) rfl (by rw [hml]; rfl) (argsL := [(.ref ag), (.int (1 : Int32)), (.int (2 : Int32))]) (rest := []) (lenOf pd_6 rfl) rfl (by show 2 * 0 + _ ≤ _; exact Nat.le_of_eq rfl) (hb hby d71m15_18) (fun _ _ => ⟨rfl, e445, Nat.le_of_ble_eq_true rfl, Nat.le_of_ble_eq_true rfl⟩)
  dsimp only [Pt.U, Pt.locs, Pt.cells, Pt.slots] at X446 l446 y446 z446 st446 hQ446
  rw [l446, y446, z446] at X446
  obtain ⟨d446, rfl, N446q, V446, O446q⟩ := hQ446
  have N446 := Fr.app N0 N446q
  have V446v : OView Z n0 T446.heap (oB d446 [(gj GG (1 : Int32))] :: oB ag GG :: oP a [(.ref ap), (.ref as), (.ref aq), (.ref ax), (.ref ak), (.int (1 : Int32)), (.ref ag), (.ref ab), (.int (2 : Int32))] :: F) := V446
  have Z446 : n0 ≤ T446.heap.size := V446v.big 0 rfl
  refine OGets.step st446 ?_
  obtain ⟨_, _, ⟨T447, L447, k447, n447⟩, -, X447, ⟨Lc447, hQ447, l447, y447, z447⟩, st447⟩ := Jvm.LawKit.callS X446 hx (y := (⟨"java/util/BitSet", "valueOf", "([J)Ljava/util/BitSet;"⟩ : MethodName)) hown (mvT hZ (ow hw 70 rfl)) (mvT hZ (ow hw 71 rfl)) (mvT hZ (ow hw 72 rfl)) (mvT hZ (ow hw 73 rfl)) (by decide) (backOf (W := 0) (rm_vo11 l Z a0 hw [] d446 (gj GG (1 : Int32)) T446.heap n0 _ Z446 SA z0 V446v O446q) hZ (ow hw 73 rfl) (ow hw 72 rfl) (by decide) (by decide)) (g := (mkF m 21 #[rv a, iv (1 : Int32)] [(.ref d446)])) rfl (by rw [hml]; rfl) (argsL := [(.ref d446)]) (rest := []) (lenOf pd_11 rfl) rfl (by show 2 * 0 + _ ≤ _; exact Nat.le_of_eq rfl) (hb hby d71m15_21) (fun _ _ => ⟨rfl, rfl, Nat.le_of_ble_eq_true rfl, Nat.le_of_ble_eq_true rfl⟩)
  dsimp only [Pt.U, Pt.locs, Pt.cells, Pt.slots] at X447 l447 y447 z447 st447 hQ447
  rw [l447, y447, z447] at X447
  obtain ⟨a447, e447, rfl, N447q, V447, O447q⟩ := hQ447
  have N447 := Fr.app N446 N447q
  have V447v : OView Z n0 T447.heap (oS a447 [(.int (1 : Int32)), (.int (0 : Int32)), (.ref e447)] :: oB e447 [(gj GG (1 : Int32))] :: oB ag GG :: oP a [(.ref ap), (.ref as), (.ref aq), (.ref ax), (.ref ak), (.int (1 : Int32)), (.ref ag), (.ref ab), (.int (2 : Int32))] :: F) := V447
  have Z447 : n0 ≤ T447.heap.size := V447v.big 0 rfl
  refine OGets.step st447 ?_
  refine OGets.retA X447 hx hlk (t := (.object "java/util/BitSet")) Bd.returns rfl rfl rfl (hb hby d71m15_24) (Nat.le_of_ble_eq_true rfl) (Nat.le_of_ble_eq_true rfl) ?_
  have Vp448 : OView Z _ T447.heap (oS a447 [(.int (1 : Int32)), (.int (0 : Int32)), (.ref e447)] :: oB e447 [(gj GG (1 : Int32))] :: oP a [(.ref ap), (.ref as), (.ref aq), (.ref ax), (.ref ak), (.int (1 : Int32)), (.ref ag), (.ref ab), (.int (2 : Int32))] :: oB ag GG :: F) := (((V447v.bring 3 rfl).bring 2 rfl).bring 2 rfl)
  exact ⟨a447, e447, rfl, N447, Vp448, O447q⟩
theorem ef_gtd200 (m : MethodId) (x0 : Addr) (x1 : Int32) : entryFrame m #[(.ref x0), (.int x1)] 2 = mkF m 0 #[.val (.ref x0), .val (.int x1)] [] := by first | (simp [entryFrame, mkF, argsToLocals, Value.category]; done) | rfl
def Q_gtd200 (Z : State) (a : Addr) (ap : Addr) (as : Addr) (aq : Addr) (ax : Addr) (ak : Addr) (ag : Addr) (ab : Addr) (GG : List Int64) (h0 : Heap) (n0 : Nat) (F : List (Addr × OObj)) (v : Option Value) (h : Heap) (L : List Loc) : Prop := ∃ u e : Addr, v = some (.ref u) ∧ Fr n0 L ∧ OView Z n0 h (oS u [(.int (0 : Int32)), (.int (0 : Int32)), (.ref e)] :: oB e [] :: oP a [(.ref ap), (.ref as), (.ref aq), (.ref ax), (.ref ak), (.int (2 : Int32)), (.ref ag), (.ref ab), (.int (2 : Int32))] :: oB ag GG :: F) ∧ Old Z n0 h
set_option maxRecDepth 65536 in
set_option maxHeartbeats 40000000 in
theorem rm_gtd200 (l : Launch) (Z : State) (a0 : Array Value) (hw : ∀ d ∈ tables_1, d.before a0 Z = true) (ws : List Jvm.Cond) (a : Addr) (ap : Addr) (as : Addr) (aq : Addr) (ax : Addr) (ak : Addr) (ag : Addr) (ab : Addr) (GG : List Int64) (h0 : Heap) (n0 : Nat) (F : List (Addr × OObj)) (Z0 : n0 ≤ h0.size) (SA : Sta Z Z.heap "java/util/BitSet" "$assertionsDisabled" "Z" (.int (1 : Int32))) (hlG : GG.length = 32) (z0 : (gj GG (0 : Int32)) = (0 : Int64)) (z1 : (gj GG (1 : Int32)) = (0 : Int64)) (V0 : OView Z n0 h0 (oP a [(.ref ap), (.ref as), (.ref aq), (.ref ax), (.ref ak), (.int (2 : Int32)), (.ref ag), (.ref ab), (.int (2 : Int32))] :: oB ag GG :: F)) (O0 : Old Z n0 h0) :
    MetFree l (⟨"com/example/inya/inya/SearchPath", "gathered", "(I)Ljava/util/BitSet;"⟩ : MethodName) (head1 (Jvm.Cond.code (⟨"com/example/inya/inya/SearchPath", "gathered", "(I)Ljava/util/BitSet;"⟩ : MethodName) prog_71_method_15_code 2 (some (.object "java/util/BitSet")) :: ws) ({ frames := 3, cells := 3, slots := 5, locals := 48 } : Room)) (fun a_ U => a_ = #[(.ref a), (.int (0 : Int32))] ∧ Z.Warmed39 U.vm ∧ U.heap = h0) (fun _ _ _ _ _ => True) (fun _ U o U' => ∃ v L, o = .returned v ∧ Q_gtd200 Z a ap as aq ax ak ag ab GG h0 n0 F v U'.heap L ∧ FrameEnd U o U' L ({ frames := 3, cells := 3, slots := 5, locals := 48 } : Room).cells ({ frames := 3, cells := 3, slots := 5, locals := 48 } : Room).slots) := by
  refine MetFree.of_bodySF (plainFor_of_name pn_0) hisR ?_
  intro p e s m args below meth c s₁ Bd hml0 hP hK
  obtain ⟨rfl, hZ, hh⟩ := hP
  have hx := Bd.exec
  have hby := Bd.bytes
  have hlk : meth.locks = false := Bd.notSynchronized
  have hml : c.maxLocals = 2 := hml0
  have hown : s.vm.findClass "com/example/inya/inya/SearchPath" = some m.cls := findClass_of_methodNamed Bd.named
  have hnm := (name_of_methodNamed Bd.named Bd.method).1
  have X0 : Stand p l e ({ frames := 3, cells := 3, slots := 5, locals := 48 } : Room) s m #[(.ref a), (.int (0 : Int32))] below meth c s₁ [] 0 0 := Stand.of_body Bd
  have e0 : s₁.heap = h0 := by rw [← hh, Bd.state]; rfl
  have N0 := Fr.nil n0
  show OGets p e below (OLeaves s (Q_gtd200 Z a ap as aq ax ak ag ab GG h0 n0 F ) ({ frames := 3, cells := 3, slots := 5, locals := 48 } : Room).cells ({ frames := 3, cells := 3, slots := 5, locals := 48 } : Room).slots) _
  refine OGets.enter (ef_gtd200 m a (0 : Int32)) ?_
  show OGets p e below _ (s₁.setTop (mkF m 0 #[rv a, iv (0 : Int32)] []))
  refine OGets.step (fun _ => XS.aloadN X0.here hx rfl (hb hby d71m15_0) rfl rfl) ?_
  obtain ⟨T449, X449, e449, st449⟩ := getF X0 hx hZ hown (host := "") (Or.inl (ow hw 25 rfl)) Via.refl e0 (V0.fld 0 rfl 6 rfl rfl) (g := (mkF m 1 #[rv a, iv (0 : Int32)] [(.ref a)])) rfl rfl (hb hby d71m15_1)
  refine OGets.step st449 ?_
  refine OGets.step (fun _ => XS.iloadN X449.here hx rfl (hb hby d71m15_4) rfl) ?_
  refine OGets.step (fun _ => XS.aloadN X449.here hx rfl (hb hby d71m15_5) rfl rfl) ?_
  obtain ⟨T450, X450, e450, st450⟩ := getF X449 hx hZ hown (host := "") (Or.inl (ow hw 23 rfl)) Via.refl e449 (V0.fld 0 rfl 5 rfl rfl) (g := (mkF m 6 #[rv a, iv (0 : Int32)] [(.ref a), (.int (0 : Int32)), (.ref ag)])) rfl rfl (hb hby d71m15_6)
  refine OGets.step st450 ?_
  refine OGets.step (fun _ => XS.imul X450.here hx rfl (hb hby d71m15_9) rfl) ?_
  show OGets p e below _ (T450.setTop (mkF m 10 #[rv a, iv (0 : Int32)] [(.int (0 : Int32)), (.ref ag)]))
  refine OGets.step (fun _ => XS.iloadN X450.here hx rfl (hb hby d71m15_10) rfl) ?_
  refine OGets.step (fun _ => XS.iconst X450.here hx rfl (hb hby d71m15_11)) ?_
  refine OGets.step (fun _ => XS.iadd X450.here hx rfl (hb hby d71m15_12) rfl) ?_
  show OGets p e below _ (T450.setTop (mkF m 13 #[rv a, iv (0 : Int32)] [(.int (1 : Int32)), (.int (0 : Int32)), (.ref ag)]))
  refine OGets.step (fun _ => XS.aloadN X450.here hx rfl (hb hby d71m15_13) rfl rfl) ?_
  obtain ⟨T451, X451, e451, st451⟩ := getF X450 hx hZ hown (host := "") (Or.inl (ow hw 23 rfl)) Via.refl e450 (V0.fld 0 rfl 5 rfl rfl) (g := (mkF m 14 #[rv a, iv (0 : Int32)] [(.ref a), (.int (1 : Int32)), (.int (0 : Int32)), (.ref ag)])) rfl rfl (hb hby d71m15_14)
  refine OGets.step st451 ?_
  refine OGets.step (fun _ => XS.imul X451.here hx rfl (hb hby d71m15_17) rfl) ?_
  show OGets p e below _ (T451.setTop (mkF m 18 #[rv a, iv (0 : Int32)] [(.int (2 : Int32)), (.int (0 : Int32)), (.ref ag)]))
  have V452_ : OView Z _ h0 (oB ag GG :: oP a [(.ref ap), (.ref as), (.ref aq), (.ref ax), (.ref ak), (.int (2 : Int32)), (.ref ag), (.ref ab), (.int (2 : Int32))] :: F) := (V0.bring 1 rfl)
  obtain ⟨_, _, ⟨T452, L452, k452, n452⟩, -, X452, ⟨Lc452, hQ452, l452, y452, z452⟩, st452⟩ := Jvm.LawKit.callS X451 hx (y := (⟨"java/util/Arrays", "copyOfRange", "([JII)[J"⟩ : MethodName)) hown (mvT hZ (ow hw 53 rfl)) (mvT hZ (ow hw 54 rfl)) (mvT hZ (ow hw 38 rfl)) (mvT hZ (ow hw 55 rfl)) (by decide) (backOf (W := 0) (rm_cr20 l Z a0 hw [] ag GG h0 n0 _ Z0 (by simp only [sj_len, List.length_replicate, hlG]) V452_ O0) hZ (ow hw 55 rfl) (ow hw 38 rfl) (by decide) (by decide)) (g := (mkF m 18 #[rv a, iv (0 : Int32)] [(.int (2 : Int32)), (.int (0 : Int32)), (.ref ag)])) rfl (by rw [hml]; rfl) (argsL := [(.ref ag), (.int (0 : Int32)), (.int (2 : Int32))]) (rest := []) (lenOf pd_6 rfl) rfl (by show 2 * 0 + _ ≤ _; exact Nat.le_of_eq rfl) (hb hby d71m15_18) (fun _ _ => ⟨rfl, e451, Nat.le_of_ble_eq_true rfl, Nat.le_of_ble_eq_true rfl⟩)
  dsimp only [Pt.U, Pt.locs, Pt.cells, Pt.slots] at X452 l452 y452 z452 st452 hQ452
  rw [l452, y452, z452] at X452
  obtain ⟨d452, rfl, N452q, V452, O452q⟩ := hQ452
  have N452 := Fr.app N0 N452q
  have V452v : OView Z n0 T452.heap (oB d452 [(gj GG (0 : Int32)), (gj GG (1 : Int32))] :: oB ag GG :: oP a [(.ref ap), (.ref as), (.ref aq), (.ref ax), (.ref ak), (.int (2 : Int32)), (.ref ag), (.ref ab), (.int (2 : Int32))] :: F) := V452
  have Z452 : n0 ≤ T452.heap.size := V452v.big 0 rfl
  refine OGets.step st452 ?_
  obtain ⟨_, _, ⟨T453, L453, k453, n453⟩, -, X453, ⟨Lc453, hQ453, l453, y453, z453⟩, st453⟩ := Jvm.LawKit.callS X452 hx (y := (⟨"java/util/BitSet", "valueOf", "([J)Ljava/util/BitSet;"⟩ : MethodName)) hown (mvT hZ (ow hw 70 rfl)) (mvT hZ (ow hw 71 rfl)) (mvT hZ (ow hw 72 rfl)) (mvT hZ (ow hw 73 rfl)) (by decide) (backOf (W := 0) (rm_vo20 l Z a0 hw [] d452 (gj GG (0 : Int32)) (gj GG (1 : Int32)) T452.heap n0 _ Z452 SA z0 z1 V452v O452q) hZ (ow hw 73 rfl) (ow hw 72 rfl) (by decide) (by decide)) (g := (mkF m 21 #[rv a, iv (0 : Int32)] [(.ref d452)])) rfl (by rw [hml]; rfl) (argsL := [(.ref d452)]) (rest := []) (lenOf pd_11 rfl) rfl (by show 2 * 0 + _ ≤ _; exact Nat.le_of_eq rfl) (hb hby d71m15_21) (fun _ _ => ⟨rfl, rfl, Nat.le_of_ble_eq_true rfl, Nat.le_of_ble_eq_true rfl⟩)
  dsimp only [Pt.U, Pt.locs, Pt.cells, Pt.slots] at X453 l453 y453 z453 st453 hQ453
  rw [l453, y453, z453] at X453
  obtain ⟨a453, e453, rfl, N453q, V453, O453q⟩ := hQ453
  have N453 := Fr.app N452 N453q
  have V453v : OView Z n0 T453.heap (oS a453 [(.int (0 : Int32)), (.int (0 : Int32)), (.ref e453)] :: oB e453 [] :: oB ag GG :: oP a [(.ref ap), (.ref as), (.ref aq), (.ref ax), (.ref ak), (.int (2 : Int32)), (.ref ag), (.ref ab), (.int (2 : Int32))] :: F) := V453
  have Z453 : n0 ≤ T453.heap.size := V453v.big 0 rfl
  refine OGets.step st453 ?_
  refine OGets.retA X453 hx hlk (t := (.object "java/util/BitSet")) Bd.returns rfl rfl rfl (hb hby d71m15_24) (Nat.le_of_ble_eq_true rfl) (Nat.le_of_ble_eq_true rfl) ?_
  have Vp454 : OView Z _ T453.heap (oS a453 [(.int (0 : Int32)), (.int (0 : Int32)), (.ref e453)] :: oB e453 [] :: oP a [(.ref ap), (.ref as), (.ref aq), (.ref ax), (.ref ak), (.int (2 : Int32)), (.ref ag), (.ref ab), (.int (2 : Int32))] :: oB ag GG :: F) := (((V453v.bring 3 rfl).bring 2 rfl).bring 2 rfl)
  exact ⟨a453, e453, rfl, N453, Vp454, O453q⟩
theorem ef_gtd201 (m : MethodId) (x0 : Addr) (x1 : Int32) : entryFrame m #[(.ref x0), (.int x1)] 2 = mkF m 0 #[.val (.ref x0), .val (.int x1)] [] := by first | (simp [entryFrame, mkF, argsToLocals, Value.category]; done) | rfl
def Q_gtd201 (Z : State) (a : Addr) (ap : Addr) (as : Addr) (aq : Addr) (ax : Addr) (ak : Addr) (ag : Addr) (ab : Addr) (GG : List Int64) (h0 : Heap) (n0 : Nat) (F : List (Addr × OObj)) (v : Option Value) (h : Heap) (L : List Loc) : Prop := ∃ u e : Addr, v = some (.ref u) ∧ Fr n0 L ∧ OView Z n0 h (oS u [(.int (1 : Int32)), (.int (0 : Int32)), (.ref e)] :: oB e [(gj GG (0 : Int32))] :: oP a [(.ref ap), (.ref as), (.ref aq), (.ref ax), (.ref ak), (.int (2 : Int32)), (.ref ag), (.ref ab), (.int (2 : Int32))] :: oB ag GG :: F) ∧ Old Z n0 h
set_option maxRecDepth 65536 in
set_option maxHeartbeats 40000000 in
theorem rm_gtd201 (l : Launch) (Z : State) (a0 : Array Value) (hw : ∀ d ∈ tables_1, d.before a0 Z = true) (ws : List Jvm.Cond) (a : Addr) (ap : Addr) (as : Addr) (aq : Addr) (ax : Addr) (ak : Addr) (ag : Addr) (ab : Addr) (GG : List Int64) (h0 : Heap) (n0 : Nat) (F : List (Addr × OObj)) (Z0 : n0 ≤ h0.size) (SA : Sta Z Z.heap "java/util/BitSet" "$assertionsDisabled" "Z" (.int (1 : Int32))) (hlG : GG.length = 32) (z0 : ¬ (gj GG (0 : Int32)) = (0 : Int64)) (z1 : (gj GG (1 : Int32)) = (0 : Int64)) (V0 : OView Z n0 h0 (oP a [(.ref ap), (.ref as), (.ref aq), (.ref ax), (.ref ak), (.int (2 : Int32)), (.ref ag), (.ref ab), (.int (2 : Int32))] :: oB ag GG :: F)) (O0 : Old Z n0 h0) :
    MetFree l (⟨"com/example/inya/inya/SearchPath", "gathered", "(I)Ljava/util/BitSet;"⟩ : MethodName) (head1 (Jvm.Cond.code (⟨"com/example/inya/inya/SearchPath", "gathered", "(I)Ljava/util/BitSet;"⟩ : MethodName) prog_71_method_15_code 2 (some (.object "java/util/BitSet")) :: ws) ({ frames := 3, cells := 3, slots := 6, locals := 48 } : Room)) (fun a_ U => a_ = #[(.ref a), (.int (0 : Int32))] ∧ Z.Warmed39 U.vm ∧ U.heap = h0) (fun _ _ _ _ _ => True) (fun _ U o U' => ∃ v L, o = .returned v ∧ Q_gtd201 Z a ap as aq ax ak ag ab GG h0 n0 F v U'.heap L ∧ FrameEnd U o U' L ({ frames := 3, cells := 3, slots := 6, locals := 48 } : Room).cells ({ frames := 3, cells := 3, slots := 6, locals := 48 } : Room).slots) := by
  refine MetFree.of_bodySF (plainFor_of_name pn_0) hisR ?_
  intro p e s m args below meth c s₁ Bd hml0 hP hK
  obtain ⟨rfl, hZ, hh⟩ := hP
  have hx := Bd.exec
  have hby := Bd.bytes
  have hlk : meth.locks = false := Bd.notSynchronized
  have hml : c.maxLocals = 2 := hml0
  have hown : s.vm.findClass "com/example/inya/inya/SearchPath" = some m.cls := findClass_of_methodNamed Bd.named
  have hnm := (name_of_methodNamed Bd.named Bd.method).1
  have X0 : Stand p l e ({ frames := 3, cells := 3, slots := 6, locals := 48 } : Room) s m #[(.ref a), (.int (0 : Int32))] below meth c s₁ [] 0 0 := Stand.of_body Bd
  have e0 : s₁.heap = h0 := by rw [← hh, Bd.state]; rfl
  have N0 := Fr.nil n0
  show OGets p e below (OLeaves s (Q_gtd201 Z a ap as aq ax ak ag ab GG h0 n0 F ) ({ frames := 3, cells := 3, slots := 6, locals := 48 } : Room).cells ({ frames := 3, cells := 3, slots := 6, locals := 48 } : Room).slots) _
  refine OGets.enter (ef_gtd201 m a (0 : Int32)) ?_
  show OGets p e below _ (s₁.setTop (mkF m 0 #[rv a, iv (0 : Int32)] []))
  refine OGets.step (fun _ => XS.aloadN X0.here hx rfl (hb hby d71m15_0) rfl rfl) ?_
  obtain ⟨T455, X455, e455, st455⟩ := getF X0 hx hZ hown (host := "") (Or.inl (ow hw 25 rfl)) Via.refl e0 (V0.fld 0 rfl 6 rfl rfl) (g := (mkF m 1 #[rv a, iv (0 : Int32)] [(.ref a)])) rfl rfl (hb hby d71m15_1)
  refine OGets.step st455 ?_
  refine OGets.step (fun _ => XS.iloadN X455.here hx rfl (hb hby d71m15_4) rfl) ?_
  refine OGets.step (fun _ => XS.aloadN X455.here hx rfl (hb hby d71m15_5) rfl rfl) ?_
  obtain ⟨T456, X456, e456, st456⟩ := getF X455 hx hZ hown (host := "") (Or.inl (ow hw 23 rfl)) Via.refl e455 (V0.fld 0 rfl 5 rfl rfl) (g := (mkF m 6 #[rv a, iv (0 : Int32)] [(.ref a), (.int (0 : Int32)), (.ref ag)])) rfl rfl (hb hby d71m15_6)
  refine OGets.step st456 ?_
  refine OGets.step (fun _ => XS.imul X456.here hx rfl (hb hby d71m15_9) rfl) ?_
  show OGets p e below _ (T456.setTop (mkF m 10 #[rv a, iv (0 : Int32)] [(.int (0 : Int32)), (.ref ag)]))
  refine OGets.step (fun _ => XS.iloadN X456.here hx rfl (hb hby d71m15_10) rfl) ?_
  refine OGets.step (fun _ => XS.iconst X456.here hx rfl (hb hby d71m15_11)) ?_
  refine OGets.step (fun _ => XS.iadd X456.here hx rfl (hb hby d71m15_12) rfl) ?_
  show OGets p e below _ (T456.setTop (mkF m 13 #[rv a, iv (0 : Int32)] [(.int (1 : Int32)), (.int (0 : Int32)), (.ref ag)]))
  refine OGets.step (fun _ => XS.aloadN X456.here hx rfl (hb hby d71m15_13) rfl rfl) ?_
  obtain ⟨T457, X457, e457, st457⟩ := getF X456 hx hZ hown (host := "") (Or.inl (ow hw 23 rfl)) Via.refl e456 (V0.fld 0 rfl 5 rfl rfl) (g := (mkF m 14 #[rv a, iv (0 : Int32)] [(.ref a), (.int (1 : Int32)), (.int (0 : Int32)), (.ref ag)])) rfl rfl (hb hby d71m15_14)
  refine OGets.step st457 ?_
  refine OGets.step (fun _ => XS.imul X457.here hx rfl (hb hby d71m15_17) rfl) ?_
  show OGets p e below _ (T457.setTop (mkF m 18 #[rv a, iv (0 : Int32)] [(.int (2 : Int32)), (.int (0 : Int32)), (.ref ag)]))
  have V458_ : OView Z _ h0 (oB ag GG :: oP a [(.ref ap), (.ref as), (.ref aq), (.ref ax), (.ref ak), (.int (2 : Int32)), (.ref ag), (.ref ab), (.int (2 : Int32))] :: F) := (V0.bring 1 rfl)
  obtain ⟨_, _, ⟨T458, L458, k458, n458⟩, -, X458, ⟨Lc458, hQ458, l458, y458, z458⟩, st458⟩ := Jvm.LawKit.callS X457 hx (y := (⟨"java/util/Arrays", "copyOfRange", "([JII)[J"⟩ : MethodName)) hown (mvT hZ (ow hw 53 rfl)) (mvT hZ (ow hw 54 rfl)) (mvT hZ (ow hw 38 rfl)) (mvT hZ (ow hw 55 rfl)) (by decide) (backOf (W := 0) (rm_cr20 l Z a0 hw [] ag GG h0 n0 _ Z0 (by simp only [sj_len, List.length_replicate, hlG]) V458_ O0) hZ (ow hw 55 rfl) (ow hw 38 rfl) (by decide) (by decide)) (g := (mkF m 18 #[rv a, iv (0 : Int32)] [(.int (2 : Int32)), (.int (0 : Int32)), (.ref ag)])) rfl (by rw [hml]; rfl) (argsL := [(.ref ag), (.int (0 : Int32)), (.int (2 : Int32))]) (rest := []) (lenOf pd_6 rfl) rfl (by show 2 * 0 + _ ≤ _; exact Nat.le_of_eq rfl) (hb hby d71m15_18) (fun _ _ => ⟨rfl, e457, Nat.le_of_ble_eq_true rfl, Nat.le_of_ble_eq_true rfl⟩)
  dsimp only [Pt.U, Pt.locs, Pt.cells, Pt.slots] at X458 l458 y458 z458 st458 hQ458
  rw [l458, y458, z458] at X458
  obtain ⟨d458, rfl, N458q, V458, O458q⟩ := hQ458
  have N458 := Fr.app N0 N458q
  have V458v : OView Z n0 T458.heap (oB d458 [(gj GG (0 : Int32)), (gj GG (1 : Int32))] :: oB ag GG :: oP a [(.ref ap), (.ref as), (.ref aq), (.ref ax), (.ref ak), (.int (2 : Int32)), (.ref ag), (.ref ab), (.int (2 : Int32))] :: F) := V458
  have Z458 : n0 ≤ T458.heap.size := V458v.big 0 rfl
  refine OGets.step st458 ?_
  obtain ⟨_, _, ⟨T459, L459, k459, n459⟩, -, X459, ⟨Lc459, hQ459, l459, y459, z459⟩, st459⟩ := Jvm.LawKit.callS X458 hx (y := (⟨"java/util/BitSet", "valueOf", "([J)Ljava/util/BitSet;"⟩ : MethodName)) hown (mvT hZ (ow hw 70 rfl)) (mvT hZ (ow hw 71 rfl)) (mvT hZ (ow hw 72 rfl)) (mvT hZ (ow hw 73 rfl)) (by decide) (backOf (W := 0) (rm_vo21 l Z a0 hw [] d458 (gj GG (0 : Int32)) (gj GG (1 : Int32)) T458.heap n0 _ Z458 SA z0 z1 V458v O458q) hZ (ow hw 73 rfl) (ow hw 72 rfl) (by decide) (by decide)) (g := (mkF m 21 #[rv a, iv (0 : Int32)] [(.ref d458)])) rfl (by rw [hml]; rfl) (argsL := [(.ref d458)]) (rest := []) (lenOf pd_11 rfl) rfl (by show 2 * 0 + _ ≤ _; exact Nat.le_of_eq rfl) (hb hby d71m15_21) (fun _ _ => ⟨rfl, rfl, Nat.le_of_ble_eq_true rfl, Nat.le_of_ble_eq_true rfl⟩)
  dsimp only [Pt.U, Pt.locs, Pt.cells, Pt.slots] at X459 l459 y459 z459 st459 hQ459
  rw [l459, y459, z459] at X459
  obtain ⟨a459, e459, rfl, N459q, V459, O459q⟩ := hQ459
  have N459 := Fr.app N458 N459q
  have V459v : OView Z n0 T459.heap (oS a459 [(.int (1 : Int32)), (.int (0 : Int32)), (.ref e459)] :: oB e459 [(gj GG (0 : Int32))] :: oB ag GG :: oP a [(.ref ap), (.ref as), (.ref aq), (.ref ax), (.ref ak), (.int (2 : Int32)), (.ref ag), (.ref ab), (.int (2 : Int32))] :: F) := V459
  have Z459 : n0 ≤ T459.heap.size := V459v.big 0 rfl
  refine OGets.step st459 ?_
  refine OGets.retA X459 hx hlk (t := (.object "java/util/BitSet")) Bd.returns rfl rfl rfl (hb hby d71m15_24) (Nat.le_of_ble_eq_true rfl) (Nat.le_of_ble_eq_true rfl) ?_
  have Vp460 : OView Z _ T459.heap (oS a459 [(.int (1 : Int32)), (.int (0 : Int32)), (.ref e459)] :: oB e459 [(gj GG (0 : Int32))] :: oP a [(.ref ap), (.ref as), (.ref aq), (.ref ax), (.ref ak), (.int (2 : Int32)), (.ref ag), (.ref ab), (.int (2 : Int32))] :: oB ag GG :: F) := (((V459v.bring 3 rfl).bring 2 rfl).bring 2 rfl)
  exact ⟨a459, e459, rfl, N459, Vp460, O459q⟩
theorem ef_gtd202 (m : MethodId) (x0 : Addr) (x1 : Int32) : entryFrame m #[(.ref x0), (.int x1)] 2 = mkF m 0 #[.val (.ref x0), .val (.int x1)] [] := by first | (simp [entryFrame, mkF, argsToLocals, Value.category]; done) | rfl
def Q_gtd202 (Z : State) (a : Addr) (ap : Addr) (as : Addr) (aq : Addr) (ax : Addr) (ak : Addr) (ag : Addr) (ab : Addr) (GG : List Int64) (h0 : Heap) (n0 : Nat) (F : List (Addr × OObj)) (v : Option Value) (h : Heap) (L : List Loc) : Prop := ∃ u e : Addr, v = some (.ref u) ∧ Fr n0 L ∧ OView Z n0 h (oS u [(.int (2 : Int32)), (.int (0 : Int32)), (.ref e)] :: oB e [(gj GG (0 : Int32)), (gj GG (1 : Int32))] :: oP a [(.ref ap), (.ref as), (.ref aq), (.ref ax), (.ref ak), (.int (2 : Int32)), (.ref ag), (.ref ab), (.int (2 : Int32))] :: oB ag GG :: F) ∧ Old Z n0 h
set_option maxRecDepth 65536 in
set_option maxHeartbeats 40000000 in
theorem rm_gtd202 (l : Launch) (Z : State) (a0 : Array Value) (hw : ∀ d ∈ tables_1, d.before a0 Z = true) (ws : List Jvm.Cond) (a : Addr) (ap : Addr) (as : Addr) (aq : Addr) (ax : Addr) (ak : Addr) (ag : Addr) (ab : Addr) (GG : List Int64) (h0 : Heap) (n0 : Nat) (F : List (Addr × OObj)) (Z0 : n0 ≤ h0.size) (SA : Sta Z Z.heap "java/util/BitSet" "$assertionsDisabled" "Z" (.int (1 : Int32))) (hlG : GG.length = 32) (z1 : ¬ (gj GG (1 : Int32)) = (0 : Int64)) (V0 : OView Z n0 h0 (oP a [(.ref ap), (.ref as), (.ref aq), (.ref ax), (.ref ak), (.int (2 : Int32)), (.ref ag), (.ref ab), (.int (2 : Int32))] :: oB ag GG :: F)) (O0 : Old Z n0 h0) :
    MetFree l (⟨"com/example/inya/inya/SearchPath", "gathered", "(I)Ljava/util/BitSet;"⟩ : MethodName) (head1 (Jvm.Cond.code (⟨"com/example/inya/inya/SearchPath", "gathered", "(I)Ljava/util/BitSet;"⟩ : MethodName) prog_71_method_15_code 2 (some (.object "java/util/BitSet")) :: ws) ({ frames := 3, cells := 3, slots := 7, locals := 48 } : Room)) (fun a_ U => a_ = #[(.ref a), (.int (0 : Int32))] ∧ Z.Warmed39 U.vm ∧ U.heap = h0) (fun _ _ _ _ _ => True) (fun _ U o U' => ∃ v L, o = .returned v ∧ Q_gtd202 Z a ap as aq ax ak ag ab GG h0 n0 F v U'.heap L ∧ FrameEnd U o U' L ({ frames := 3, cells := 3, slots := 7, locals := 48 } : Room).cells ({ frames := 3, cells := 3, slots := 7, locals := 48 } : Room).slots) := by
  refine MetFree.of_bodySF (plainFor_of_name pn_0) hisR ?_
  intro p e s m args below meth c s₁ Bd hml0 hP hK
  obtain ⟨rfl, hZ, hh⟩ := hP
  have hx := Bd.exec
  have hby := Bd.bytes
  have hlk : meth.locks = false := Bd.notSynchronized
  have hml : c.maxLocals = 2 := hml0
  have hown : s.vm.findClass "com/example/inya/inya/SearchPath" = some m.cls := findClass_of_methodNamed Bd.named
  have hnm := (name_of_methodNamed Bd.named Bd.method).1
  have X0 : Stand p l e ({ frames := 3, cells := 3, slots := 7, locals := 48 } : Room) s m #[(.ref a), (.int (0 : Int32))] below meth c s₁ [] 0 0 := Stand.of_body Bd
  have e0 : s₁.heap = h0 := by rw [← hh, Bd.state]; rfl
  have N0 := Fr.nil n0
  show OGets p e below (OLeaves s (Q_gtd202 Z a ap as aq ax ak ag ab GG h0 n0 F ) ({ frames := 3, cells := 3, slots := 7, locals := 48 } : Room).cells ({ frames := 3, cells := 3, slots := 7, locals := 48 } : Room).slots) _
  refine OGets.enter (ef_gtd202 m a (0 : Int32)) ?_
  show OGets p e below _ (s₁.setTop (mkF m 0 #[rv a, iv (0 : Int32)] []))
  refine OGets.step (fun _ => XS.aloadN X0.here hx rfl (hb hby d71m15_0) rfl rfl) ?_
  obtain ⟨T461, X461, e461, st461⟩ := getF X0 hx hZ hown (host := "") (Or.inl (ow hw 25 rfl)) Via.refl e0 (V0.fld 0 rfl 6 rfl rfl) (g := (mkF m 1 #[rv a, iv (0 : Int32)] [(.ref a)])) rfl rfl (hb hby d71m15_1)
  refine OGets.step st461 ?_
  refine OGets.step (fun _ => XS.iloadN X461.here hx rfl (hb hby d71m15_4) rfl) ?_
  refine OGets.step (fun _ => XS.aloadN X461.here hx rfl (hb hby d71m15_5) rfl rfl) ?_
  obtain ⟨T462, X462, e462, st462⟩ := getF X461 hx hZ hown (host := "") (Or.inl (ow hw 23 rfl)) Via.refl e461 (V0.fld 0 rfl 5 rfl rfl) (g := (mkF m 6 #[rv a, iv (0 : Int32)] [(.ref a), (.int (0 : Int32)), (.ref ag)])) rfl rfl (hb hby d71m15_6)
  refine OGets.step st462 ?_
  refine OGets.step (fun _ => XS.imul X462.here hx rfl (hb hby d71m15_9) rfl) ?_
  show OGets p e below _ (T462.setTop (mkF m 10 #[rv a, iv (0 : Int32)] [(.int (0 : Int32)), (.ref ag)]))
  refine OGets.step (fun _ => XS.iloadN X462.here hx rfl (hb hby d71m15_10) rfl) ?_
  refine OGets.step (fun _ => XS.iconst X462.here hx rfl (hb hby d71m15_11)) ?_
  refine OGets.step (fun _ => XS.iadd X462.here hx rfl (hb hby d71m15_12) rfl) ?_
  show OGets p e below _ (T462.setTop (mkF m 13 #[rv a, iv (0 : Int32)] [(.int (1 : Int32)), (.int (0 : Int32)), (.ref ag)]))
  refine OGets.step (fun _ => XS.aloadN X462.here hx rfl (hb hby d71m15_13) rfl rfl) ?_
  obtain ⟨T463, X463, e463, st463⟩ := getF X462 hx hZ hown (host := "") (Or.inl (ow hw 23 rfl)) Via.refl e462 (V0.fld 0 rfl 5 rfl rfl) (g := (mkF m 14 #[rv a, iv (0 : Int32)] [(.ref a), (.int (1 : Int32)), (.int (0 : Int32)), (.ref ag)])) rfl rfl (hb hby d71m15_14)
  refine OGets.step st463 ?_
  refine OGets.step (fun _ => XS.imul X463.here hx rfl (hb hby d71m15_17) rfl) ?_
  show OGets p e below _ (T463.setTop (mkF m 18 #[rv a, iv (0 : Int32)] [(.int (2 : Int32)), (.int (0 : Int32)), (.ref ag)]))
  have V464_ : OView Z _ h0 (oB ag GG :: oP a [(.ref ap), (.ref as), (.ref aq), (.ref ax), (.ref ak), (.int (2 : Int32)), (.ref ag), (.ref ab), (.int (2 : Int32))] :: F) := (V0.bring 1 rfl)
  obtain ⟨_, _, ⟨T464, L464, k464, n464⟩, -, X464, ⟨Lc464, hQ464, l464, y464, z464⟩, st464⟩ := Jvm.LawKit.callS X463 hx (y := (⟨"java/util/Arrays", "copyOfRange", "([JII)[J"⟩ : MethodName)) hown (mvT hZ (ow hw 53 rfl)) (mvT hZ (ow hw 54 rfl)) (mvT hZ (ow hw 38 rfl)) (mvT hZ (ow hw 55 rfl)) (by decide) (backOf (W := 0) (rm_cr20 l Z a0 hw [] ag GG h0 n0 _ Z0 (by simp only [sj_len, List.length_replicate, hlG]) V464_ O0) hZ (ow hw 55 rfl) (ow hw 38 rfl) (by decide) (by decide)) (g := (mkF m 18 #[rv a, iv (0 : Int32)] [(.int (2 : Int32)), (.int (0 : Int32)), (.ref ag)])) rfl (by rw [hml]; rfl) (argsL := [(.ref ag), (.int (0 : Int32)), (.int (2 : Int32))]) (rest := []) (lenOf pd_6 rfl) rfl (by show 2 * 0 + _ ≤ _; exact Nat.le_of_eq rfl) (hb hby d71m15_18) (fun _ _ => ⟨rfl, e463, Nat.le_of_ble_eq_true rfl, Nat.le_of_ble_eq_true rfl⟩)
  dsimp only [Pt.U, Pt.locs, Pt.cells, Pt.slots] at X464 l464 y464 z464 st464 hQ464
  rw [l464, y464, z464] at X464
  obtain ⟨d464, rfl, N464q, V464, O464q⟩ := hQ464
  have N464 := Fr.app N0 N464q
  have V464v : OView Z n0 T464.heap (oB d464 [(gj GG (0 : Int32)), (gj GG (1 : Int32))] :: oB ag GG :: oP a [(.ref ap), (.ref as), (.ref aq), (.ref ax), (.ref ak), (.int (2 : Int32)), (.ref ag), (.ref ab), (.int (2 : Int32))] :: F) := V464
  have Z464 : n0 ≤ T464.heap.size := V464v.big 0 rfl
  refine OGets.step st464 ?_
  obtain ⟨_, _, ⟨T465, L465, k465, n465⟩, -, X465, ⟨Lc465, hQ465, l465, y465, z465⟩, st465⟩ := Jvm.LawKit.callS X464 hx (y := (⟨"java/util/BitSet", "valueOf", "([J)Ljava/util/BitSet;"⟩ : MethodName)) hown (mvT hZ (ow hw 70 rfl)) (mvT hZ (ow hw 71 rfl)) (mvT hZ (ow hw 72 rfl)) (mvT hZ (ow hw 73 rfl)) (by decide) (backOf (W := 0) (rm_vo22 l Z a0 hw [] d464 (gj GG (0 : Int32)) (gj GG (1 : Int32)) T464.heap n0 _ Z464 SA z1 V464v O464q) hZ (ow hw 73 rfl) (ow hw 72 rfl) (by decide) (by decide)) (g := (mkF m 21 #[rv a, iv (0 : Int32)] [(.ref d464)])) rfl (by rw [hml]; rfl) (argsL := [(.ref d464)]) (rest := []) (lenOf pd_11 rfl) rfl (by show 2 * 0 + _ ≤ _; exact Nat.le_of_eq rfl) (hb hby d71m15_21) (fun _ _ => ⟨rfl, rfl, Nat.le_of_ble_eq_true rfl, Nat.le_of_ble_eq_true rfl⟩)
  dsimp only [Pt.U, Pt.locs, Pt.cells, Pt.slots] at X465 l465 y465 z465 st465 hQ465
  rw [l465, y465, z465] at X465
  obtain ⟨a465, e465, rfl, N465q, V465, O465q⟩ := hQ465
  have N465 := Fr.app N464 N465q
  have V465v : OView Z n0 T465.heap (oS a465 [(.int (2 : Int32)), (.int (0 : Int32)), (.ref e465)] :: oB e465 [(gj GG (0 : Int32)), (gj GG (1 : Int32))] :: oB ag GG :: oP a [(.ref ap), (.ref as), (.ref aq), (.ref ax), (.ref ak), (.int (2 : Int32)), (.ref ag), (.ref ab), (.int (2 : Int32))] :: F) := V465
  have Z465 : n0 ≤ T465.heap.size := V465v.big 0 rfl
  refine OGets.step st465 ?_
  refine OGets.retA X465 hx hlk (t := (.object "java/util/BitSet")) Bd.returns rfl rfl rfl (hb hby d71m15_24) (Nat.le_of_ble_eq_true rfl) (Nat.le_of_ble_eq_true rfl) ?_
  have Vp466 : OView Z _ T465.heap (oS a465 [(.int (2 : Int32)), (.int (0 : Int32)), (.ref e465)] :: oB e465 [(gj GG (0 : Int32)), (gj GG (1 : Int32))] :: oP a [(.ref ap), (.ref as), (.ref aq), (.ref ax), (.ref ak), (.int (2 : Int32)), (.ref ag), (.ref ab), (.int (2 : Int32))] :: oB ag GG :: F) := (((V465v.bring 3 rfl).bring 2 rfl).bring 2 rfl)
  exact ⟨a465, e465, rfl, N465, Vp466, O465q⟩
theorem ef_gtd210 (m : MethodId) (x0 : Addr) (x1 : Int32) : entryFrame m #[(.ref x0), (.int x1)] 2 = mkF m 0 #[.val (.ref x0), .val (.int x1)] [] := by first | (simp [entryFrame, mkF, argsToLocals, Value.category]; done) | rfl
def Q_gtd210 (Z : State) (a : Addr) (ap : Addr) (as : Addr) (aq : Addr) (ax : Addr) (ak : Addr) (ag : Addr) (ab : Addr) (GG : List Int64) (h0 : Heap) (n0 : Nat) (F : List (Addr × OObj)) (v : Option Value) (h : Heap) (L : List Loc) : Prop := ∃ u e : Addr, v = some (.ref u) ∧ Fr n0 L ∧ OView Z n0 h (oS u [(.int (0 : Int32)), (.int (0 : Int32)), (.ref e)] :: oB e [] :: oP a [(.ref ap), (.ref as), (.ref aq), (.ref ax), (.ref ak), (.int (2 : Int32)), (.ref ag), (.ref ab), (.int (2 : Int32))] :: oB ag GG :: F) ∧ Old Z n0 h
set_option maxRecDepth 65536 in
set_option maxHeartbeats 40000000 in
theorem rm_gtd210 (l : Launch) (Z : State) (a0 : Array Value) (hw : ∀ d ∈ tables_1, d.before a0 Z = true) (ws : List Jvm.Cond) (a : Addr) (ap : Addr) (as : Addr) (aq : Addr) (ax : Addr) (ak : Addr) (ag : Addr) (ab : Addr) (GG : List Int64) (h0 : Heap) (n0 : Nat) (F : List (Addr × OObj)) (Z0 : n0 ≤ h0.size) (SA : Sta Z Z.heap "java/util/BitSet" "$assertionsDisabled" "Z" (.int (1 : Int32))) (hlG : GG.length = 32) (z0 : (gj GG (2 : Int32)) = (0 : Int64)) (z1 : (gj GG (3 : Int32)) = (0 : Int64)) (V0 : OView Z n0 h0 (oP a [(.ref ap), (.ref as), (.ref aq), (.ref ax), (.ref ak), (.int (2 : Int32)), (.ref ag), (.ref ab), (.int (2 : Int32))] :: oB ag GG :: F)) (O0 : Old Z n0 h0) :
    MetFree l (⟨"com/example/inya/inya/SearchPath", "gathered", "(I)Ljava/util/BitSet;"⟩ : MethodName) (head1 (Jvm.Cond.code (⟨"com/example/inya/inya/SearchPath", "gathered", "(I)Ljava/util/BitSet;"⟩ : MethodName) prog_71_method_15_code 2 (some (.object "java/util/BitSet")) :: ws) ({ frames := 3, cells := 3, slots := 5, locals := 48 } : Room)) (fun a_ U => a_ = #[(.ref a), (.int (1 : Int32))] ∧ Z.Warmed39 U.vm ∧ U.heap = h0) (fun _ _ _ _ _ => True) (fun _ U o U' => ∃ v L, o = .returned v ∧ Q_gtd210 Z a ap as aq ax ak ag ab GG h0 n0 F v U'.heap L ∧ FrameEnd U o U' L ({ frames := 3, cells := 3, slots := 5, locals := 48 } : Room).cells ({ frames := 3, cells := 3, slots := 5, locals := 48 } : Room).slots) := by
  refine MetFree.of_bodySF (plainFor_of_name pn_0) hisR ?_
  intro p e s m args below meth c s₁ Bd hml0 hP hK
  obtain ⟨rfl, hZ, hh⟩ := hP
  have hx := Bd.exec
  have hby := Bd.bytes
  have hlk : meth.locks = false := Bd.notSynchronized
  have hml : c.maxLocals = 2 := hml0
  have hown : s.vm.findClass "com/example/inya/inya/SearchPath" = some m.cls := findClass_of_methodNamed Bd.named
  have hnm := (name_of_methodNamed Bd.named Bd.method).1
  have X0 : Stand p l e ({ frames := 3, cells := 3, slots := 5, locals := 48 } : Room) s m #[(.ref a), (.int (1 : Int32))] below meth c s₁ [] 0 0 := Stand.of_body Bd
  have e0 : s₁.heap = h0 := by rw [← hh, Bd.state]; rfl
  have N0 := Fr.nil n0
  show OGets p e below (OLeaves s (Q_gtd210 Z a ap as aq ax ak ag ab GG h0 n0 F ) ({ frames := 3, cells := 3, slots := 5, locals := 48 } : Room).cells ({ frames := 3, cells := 3, slots := 5, locals := 48 } : Room).slots) _
  refine OGets.enter (ef_gtd210 m a (1 : Int32)) ?_
  show OGets p e below _ (s₁.setTop (mkF m 0 #[rv a, iv (1 : Int32)] []))
  refine OGets.step (fun _ => XS.aloadN X0.here hx rfl (hb hby d71m15_0) rfl rfl) ?_
  obtain ⟨T467, X467, e467, st467⟩ := getF X0 hx hZ hown (host := "") (Or.inl (ow hw 25 rfl)) Via.refl e0 (V0.fld 0 rfl 6 rfl rfl) (g := (mkF m 1 #[rv a, iv (1 : Int32)] [(.ref a)])) rfl rfl (hb hby d71m15_1)
  refine OGets.step st467 ?_
  refine OGets.step (fun _ => XS.iloadN X467.here hx rfl (hb hby d71m15_4) rfl) ?_
  refine OGets.step (fun _ => XS.aloadN X467.here hx rfl (hb hby d71m15_5) rfl rfl) ?_
  obtain ⟨T468, X468, e468, st468⟩ := getF X467 hx hZ hown (host := "") (Or.inl (ow hw 23 rfl)) Via.refl e467 (V0.fld 0 rfl 5 rfl rfl) (g := (mkF m 6 #[rv a, iv (1 : Int32)] [(.ref a), (.int (1 : Int32)), (.ref ag)])) rfl rfl (hb hby d71m15_6)
  refine OGets.step st468 ?_
  refine OGets.step (fun _ => XS.imul X468.here hx rfl (hb hby d71m15_9) rfl) ?_
  show OGets p e below _ (T468.setTop (mkF m 10 #[rv a, iv (1 : Int32)] [(.int (2 : Int32)), (.ref ag)]))
  refine OGets.step (fun _ => XS.iloadN X468.here hx rfl (hb hby d71m15_10) rfl) ?_
  refine OGets.step (fun _ => XS.iconst X468.here hx rfl (hb hby d71m15_11)) ?_
  refine OGets.step (fun _ => XS.iadd X468.here hx rfl (hb hby d71m15_12) rfl) ?_
  show OGets p e below _ (T468.setTop (mkF m 13 #[rv a, iv (1 : Int32)] [(.int (2 : Int32)), (.int (2 : Int32)), (.ref ag)]))
  refine OGets.step (fun _ => XS.aloadN X468.here hx rfl (hb hby d71m15_13) rfl rfl) ?_
  obtain ⟨T469, X469, e469, st469⟩ := getF X468 hx hZ hown (host := "") (Or.inl (ow hw 23 rfl)) Via.refl e468 (V0.fld 0 rfl 5 rfl rfl) (g := (mkF m 14 #[rv a, iv (1 : Int32)] [(.ref a), (.int (2 : Int32)), (.int (2 : Int32)), (.ref ag)])) rfl rfl (hb hby d71m15_14)
  refine OGets.step st469 ?_
  refine OGets.step (fun _ => XS.imul X469.here hx rfl (hb hby d71m15_17) rfl) ?_
  show OGets p e below _ (T469.setTop (mkF m 18 #[rv a, iv (1 : Int32)] [(.int (4 : Int32)), (.int (2 : Int32)), (.ref ag)]))
  have V470_ : OView Z _ h0 (oB ag GG :: oP a [(.ref ap), (.ref as), (.ref aq), (.ref ax), (.ref ak), (.int (2 : Int32)), (.ref ag), (.ref ab), (.int (2 : Int32))] :: F) := (V0.bring 1 rfl)
  obtain ⟨_, _, ⟨T470, L470, k470, n470⟩, -, X470, ⟨Lc470, hQ470, l470, y470, z470⟩, st470⟩ := Jvm.LawKit.callS X469 hx (y := (⟨"java/util/Arrays", "copyOfRange", "([JII)[J"⟩ : MethodName)) hown (mvT hZ (ow hw 53 rfl)) (mvT hZ (ow hw 54 rfl)) (mvT hZ (ow hw 38 rfl)) (mvT hZ (ow hw 55 rfl)) (by decide) (backOf (W := 0) (rm_cr21 l Z a0 hw [] ag GG h0 n0 _ Z0 (by simp only [sj_len, List.length_replicate, hlG]) V470_ O0) hZ (ow hw 55 rfl) (ow hw 38 rfl) (by decide) (by decide)) (g := (mkF m 18 #[rv a, iv (1 : Int32)] [(.int (4 : Int32)), (.int (2 : Int32)), (.ref ag)])) rfl (by rw [hml]; rfl) (argsL := [(.ref ag), (.int (2 : Int32)), (.int (4 : Int32))]) (rest := []) (lenOf pd_6 rfl) rfl (by show 2 * 0 + _ ≤ _; exact Nat.le_of_eq rfl) (hb hby d71m15_18) (fun _ _ => ⟨rfl, e469, Nat.le_of_ble_eq_true rfl, Nat.le_of_ble_eq_true rfl⟩)
  dsimp only [Pt.U, Pt.locs, Pt.cells, Pt.slots] at X470 l470 y470 z470 st470 hQ470
  rw [l470, y470, z470] at X470
  obtain ⟨d470, rfl, N470q, V470, O470q⟩ := hQ470
  have N470 := Fr.app N0 N470q
  have V470v : OView Z n0 T470.heap (oB d470 [(gj GG (2 : Int32)), (gj GG (3 : Int32))] :: oB ag GG :: oP a [(.ref ap), (.ref as), (.ref aq), (.ref ax), (.ref ak), (.int (2 : Int32)), (.ref ag), (.ref ab), (.int (2 : Int32))] :: F) := V470
  have Z470 : n0 ≤ T470.heap.size := V470v.big 0 rfl
  refine OGets.step st470 ?_
  obtain ⟨_, _, ⟨T471, L471, k471, n471⟩, -, X471, ⟨Lc471, hQ471, l471, y471, z471⟩, st471⟩ := Jvm.LawKit.callS X470 hx (y := (⟨"java/util/BitSet", "valueOf", "([J)Ljava/util/BitSet;"⟩ : MethodName)) hown (mvT hZ (ow hw 70 rfl)) (mvT hZ (ow hw 71 rfl)) (mvT hZ (ow hw 72 rfl)) (mvT hZ (ow hw 73 rfl)) (by decide) (backOf (W := 0) (rm_vo20 l Z a0 hw [] d470 (gj GG (2 : Int32)) (gj GG (3 : Int32)) T470.heap n0 _ Z470 SA z0 z1 V470v O470q) hZ (ow hw 73 rfl) (ow hw 72 rfl) (by decide) (by decide)) (g := (mkF m 21 #[rv a, iv (1 : Int32)] [(.ref d470)])) rfl (by rw [hml]; rfl) (argsL := [(.ref d470)]) (rest := []) (lenOf pd_11 rfl) rfl (by show 2 * 0 + _ ≤ _; exact Nat.le_of_eq rfl) (hb hby d71m15_21) (fun _ _ => ⟨rfl, rfl, Nat.le_of_ble_eq_true rfl, Nat.le_of_ble_eq_true rfl⟩)
  dsimp only [Pt.U, Pt.locs, Pt.cells, Pt.slots] at X471 l471 y471 z471 st471 hQ471
  rw [l471, y471, z471] at X471
  obtain ⟨a471, e471, rfl, N471q, V471, O471q⟩ := hQ471
  have N471 := Fr.app N470 N471q
  have V471v : OView Z n0 T471.heap (oS a471 [(.int (0 : Int32)), (.int (0 : Int32)), (.ref e471)] :: oB e471 [] :: oB ag GG :: oP a [(.ref ap), (.ref as), (.ref aq), (.ref ax), (.ref ak), (.int (2 : Int32)), (.ref ag), (.ref ab), (.int (2 : Int32))] :: F) := V471
  have Z471 : n0 ≤ T471.heap.size := V471v.big 0 rfl
  refine OGets.step st471 ?_
  refine OGets.retA X471 hx hlk (t := (.object "java/util/BitSet")) Bd.returns rfl rfl rfl (hb hby d71m15_24) (Nat.le_of_ble_eq_true rfl) (Nat.le_of_ble_eq_true rfl) ?_
  have Vp472 : OView Z _ T471.heap (oS a471 [(.int (0 : Int32)), (.int (0 : Int32)), (.ref e471)] :: oB e471 [] :: oP a [(.ref ap), (.ref as), (.ref aq), (.ref ax), (.ref ak), (.int (2 : Int32)), (.ref ag), (.ref ab), (.int (2 : Int32))] :: oB ag GG :: F) := (((V471v.bring 3 rfl).bring 2 rfl).bring 2 rfl)
  exact ⟨a471, e471, rfl, N471, Vp472, O471q⟩
theorem ef_gtd211 (m : MethodId) (x0 : Addr) (x1 : Int32) : entryFrame m #[(.ref x0), (.int x1)] 2 = mkF m 0 #[.val (.ref x0), .val (.int x1)] [] := by first | (simp [entryFrame, mkF, argsToLocals, Value.category]; done) | rfl
def Q_gtd211 (Z : State) (a : Addr) (ap : Addr) (as : Addr) (aq : Addr) (ax : Addr) (ak : Addr) (ag : Addr) (ab : Addr) (GG : List Int64) (h0 : Heap) (n0 : Nat) (F : List (Addr × OObj)) (v : Option Value) (h : Heap) (L : List Loc) : Prop := ∃ u e : Addr, v = some (.ref u) ∧ Fr n0 L ∧ OView Z n0 h (oS u [(.int (1 : Int32)), (.int (0 : Int32)), (.ref e)] :: oB e [(gj GG (2 : Int32))] :: oP a [(.ref ap), (.ref as), (.ref aq), (.ref ax), (.ref ak), (.int (2 : Int32)), (.ref ag), (.ref ab), (.int (2 : Int32))] :: oB ag GG :: F) ∧ Old Z n0 h
set_option maxRecDepth 65536 in
set_option maxHeartbeats 40000000 in
theorem rm_gtd211 (l : Launch) (Z : State) (a0 : Array Value) (hw : ∀ d ∈ tables_1, d.before a0 Z = true) (ws : List Jvm.Cond) (a : Addr) (ap : Addr) (as : Addr) (aq : Addr) (ax : Addr) (ak : Addr) (ag : Addr) (ab : Addr) (GG : List Int64) (h0 : Heap) (n0 : Nat) (F : List (Addr × OObj)) (Z0 : n0 ≤ h0.size) (SA : Sta Z Z.heap "java/util/BitSet" "$assertionsDisabled" "Z" (.int (1 : Int32))) (hlG : GG.length = 32) (z0 : ¬ (gj GG (2 : Int32)) = (0 : Int64)) (z1 : (gj GG (3 : Int32)) = (0 : Int64)) (V0 : OView Z n0 h0 (oP a [(.ref ap), (.ref as), (.ref aq), (.ref ax), (.ref ak), (.int (2 : Int32)), (.ref ag), (.ref ab), (.int (2 : Int32))] :: oB ag GG :: F)) (O0 : Old Z n0 h0) :
    MetFree l (⟨"com/example/inya/inya/SearchPath", "gathered", "(I)Ljava/util/BitSet;"⟩ : MethodName) (head1 (Jvm.Cond.code (⟨"com/example/inya/inya/SearchPath", "gathered", "(I)Ljava/util/BitSet;"⟩ : MethodName) prog_71_method_15_code 2 (some (.object "java/util/BitSet")) :: ws) ({ frames := 3, cells := 3, slots := 6, locals := 48 } : Room)) (fun a_ U => a_ = #[(.ref a), (.int (1 : Int32))] ∧ Z.Warmed39 U.vm ∧ U.heap = h0) (fun _ _ _ _ _ => True) (fun _ U o U' => ∃ v L, o = .returned v ∧ Q_gtd211 Z a ap as aq ax ak ag ab GG h0 n0 F v U'.heap L ∧ FrameEnd U o U' L ({ frames := 3, cells := 3, slots := 6, locals := 48 } : Room).cells ({ frames := 3, cells := 3, slots := 6, locals := 48 } : Room).slots) := by
  refine MetFree.of_bodySF (plainFor_of_name pn_0) hisR ?_
  intro p e s m args below meth c s₁ Bd hml0 hP hK
  obtain ⟨rfl, hZ, hh⟩ := hP
  have hx := Bd.exec
  have hby := Bd.bytes
  have hlk : meth.locks = false := Bd.notSynchronized
  have hml : c.maxLocals = 2 := hml0
  have hown : s.vm.findClass "com/example/inya/inya/SearchPath" = some m.cls := findClass_of_methodNamed Bd.named
  have hnm := (name_of_methodNamed Bd.named Bd.method).1
  have X0 : Stand p l e ({ frames := 3, cells := 3, slots := 6, locals := 48 } : Room) s m #[(.ref a), (.int (1 : Int32))] below meth c s₁ [] 0 0 := Stand.of_body Bd
  have e0 : s₁.heap = h0 := by rw [← hh, Bd.state]; rfl
  have N0 := Fr.nil n0
  show OGets p e below (OLeaves s (Q_gtd211 Z a ap as aq ax ak ag ab GG h0 n0 F ) ({ frames := 3, cells := 3, slots := 6, locals := 48 } : Room).cells ({ frames := 3, cells := 3, slots := 6, locals := 48 } : Room).slots) _
  refine OGets.enter (ef_gtd211 m a (1 : Int32)) ?_
  show OGets p e below _ (s₁.setTop (mkF m 0 #[rv a, iv (1 : Int32)] []))
  refine OGets.step (fun _ => XS.aloadN X0.here hx rfl (hb hby d71m15_0) rfl rfl) ?_
  obtain ⟨T473, X473, e473, st473⟩ := getF X0 hx hZ hown (host := "") (Or.inl (ow hw 25 rfl)) Via.refl e0 (V0.fld 0 rfl 6 rfl rfl) (g := (mkF m 1 #[rv a, iv (1 : Int32)] [(.ref a)])) rfl rfl (hb hby d71m15_1)
  refine OGets.step st473 ?_
  refine OGets.step (fun _ => XS.iloadN X473.here hx rfl (hb hby d71m15_4) rfl) ?_
  refine OGets.step (fun _ => XS.aloadN X473.here hx rfl (hb hby d71m15_5) rfl rfl) ?_
  obtain ⟨T474, X474, e474, st474⟩ := getF X473 hx hZ hown (host := "") (Or.inl (ow hw 23 rfl)) Via.refl e473 (V0.fld 0 rfl 5 rfl rfl) (g := (mkF m 6 #[rv a, iv (1 : Int32)] [(.ref a), (.int (1 : Int32)), (.ref ag)])) rfl rfl (hb hby d71m15_6)
  refine OGets.step st474 ?_
  refine OGets.step (fun _ => XS.imul X474.here hx rfl (hb hby d71m15_9) rfl) ?_
  show OGets p e below _ (T474.setTop (mkF m 10 #[rv a, iv (1 : Int32)] [(.int (2 : Int32)), (.ref ag)]))
  refine OGets.step (fun _ => XS.iloadN X474.here hx rfl (hb hby d71m15_10) rfl) ?_
  refine OGets.step (fun _ => XS.iconst X474.here hx rfl (hb hby d71m15_11)) ?_
  refine OGets.step (fun _ => XS.iadd X474.here hx rfl (hb hby d71m15_12) rfl) ?_
  show OGets p e below _ (T474.setTop (mkF m 13 #[rv a, iv (1 : Int32)] [(.int (2 : Int32)), (.int (2 : Int32)), (.ref ag)]))
  refine OGets.step (fun _ => XS.aloadN X474.here hx rfl (hb hby d71m15_13) rfl rfl) ?_
  obtain ⟨T475, X475, e475, st475⟩ := getF X474 hx hZ hown (host := "") (Or.inl (ow hw 23 rfl)) Via.refl e474 (V0.fld 0 rfl 5 rfl rfl) (g := (mkF m 14 #[rv a, iv (1 : Int32)] [(.ref a), (.int (2 : Int32)), (.int (2 : Int32)), (.ref ag)])) rfl rfl (hb hby d71m15_14)
  refine OGets.step st475 ?_
  refine OGets.step (fun _ => XS.imul X475.here hx rfl (hb hby d71m15_17) rfl) ?_
  show OGets p e below _ (T475.setTop (mkF m 18 #[rv a, iv (1 : Int32)] [(.int (4 : Int32)), (.int (2 : Int32)), (.ref ag)]))
  have V476_ : OView Z _ h0 (oB ag GG :: oP a [(.ref ap), (.ref as), (.ref aq), (.ref ax), (.ref ak), (.int (2 : Int32)), (.ref ag), (.ref ab), (.int (2 : Int32))] :: F) := (V0.bring 1 rfl)
  obtain ⟨_, _, ⟨T476, L476, k476, n476⟩, -, X476, ⟨Lc476, hQ476, l476, y476, z476⟩, st476⟩ := Jvm.LawKit.callS X475 hx (y := (⟨"java/util/Arrays", "copyOfRange", "([JII)[J"⟩ : MethodName)) hown (mvT hZ (ow hw 53 rfl)) (mvT hZ (ow hw 54 rfl)) (mvT hZ (ow hw 38 rfl)) (mvT hZ (ow hw 55 rfl)) (by decide) (backOf (W := 0) (rm_cr21 l Z a0 hw [] ag GG h0 n0 _ Z0 (by simp only [sj_len, List.length_replicate, hlG]) V476_ O0) hZ (ow hw 55 rfl) (ow hw 38 rfl) (by decide) (by decide)) (g := (mkF m 18 #[rv a, iv (1 : Int32)] [(.int (4 : Int32)), (.int (2 : Int32)), (.ref ag)])) rfl (by rw [hml]; rfl) (argsL := [(.ref ag), (.int (2 : Int32)), (.int (4 : Int32))]) (rest := []) (lenOf pd_6 rfl) rfl (by show 2 * 0 + _ ≤ _; exact Nat.le_of_eq rfl) (hb hby d71m15_18) (fun _ _ => ⟨rfl, e475, Nat.le_of_ble_eq_true rfl, Nat.le_of_ble_eq_true rfl⟩)
  dsimp only [Pt.U, Pt.locs, Pt.cells, Pt.slots] at X476 l476 y476 z476 st476 hQ476
  rw [l476, y476, z476] at X476
  obtain ⟨d476, rfl, N476q, V476, O476q⟩ := hQ476
  have N476 := Fr.app N0 N476q
  have V476v : OView Z n0 T476.heap (oB d476 [(gj GG (2 : Int32)), (gj GG (3 : Int32))] :: oB ag GG :: oP a [(.ref ap), (.ref as), (.ref aq), (.ref ax), (.ref ak), (.int (2 : Int32)), (.ref ag), (.ref ab), (.int (2 : Int32))] :: F) := V476
  have Z476 : n0 ≤ T476.heap.size := V476v.big 0 rfl
  refine OGets.step st476 ?_
  obtain ⟨_, _, ⟨T477, L477, k477, n477⟩, -, X477, ⟨Lc477, hQ477, l477, y477, z477⟩, st477⟩ := Jvm.LawKit.callS X476 hx (y := (⟨"java/util/BitSet", "valueOf", "([J)Ljava/util/BitSet;"⟩ : MethodName)) hown (mvT hZ (ow hw 70 rfl)) (mvT hZ (ow hw 71 rfl)) (mvT hZ (ow hw 72 rfl)) (mvT hZ (ow hw 73 rfl)) (by decide) (backOf (W := 0) (rm_vo21 l Z a0 hw [] d476 (gj GG (2 : Int32)) (gj GG (3 : Int32)) T476.heap n0 _ Z476 SA z0 z1 V476v O476q) hZ (ow hw 73 rfl) (ow hw 72 rfl) (by decide) (by decide)) (g := (mkF m 21 #[rv a, iv (1 : Int32)] [(.ref d476)])) rfl (by rw [hml]; rfl) (argsL := [(.ref d476)]) (rest := []) (lenOf pd_11 rfl) rfl (by show 2 * 0 + _ ≤ _; exact Nat.le_of_eq rfl) (hb hby d71m15_21) (fun _ _ => ⟨rfl, rfl, Nat.le_of_ble_eq_true rfl, Nat.le_of_ble_eq_true rfl⟩)
  dsimp only [Pt.U, Pt.locs, Pt.cells, Pt.slots] at X477 l477 y477 z477 st477 hQ477
  rw [l477, y477, z477] at X477
  obtain ⟨a477, e477, rfl, N477q, V477, O477q⟩ := hQ477
  have N477 := Fr.app N476 N477q
  have V477v : OView Z n0 T477.heap (oS a477 [(.int (1 : Int32)), (.int (0 : Int32)), (.ref e477)] :: oB e477 [(gj GG (2 : Int32))] :: oB ag GG :: oP a [(.ref ap), (.ref as), (.ref aq), (.ref ax), (.ref ak), (.int (2 : Int32)), (.ref ag), (.ref ab), (.int (2 : Int32))] :: F) := V477
  have Z477 : n0 ≤ T477.heap.size := V477v.big 0 rfl
  refine OGets.step st477 ?_
  refine OGets.retA X477 hx hlk (t := (.object "java/util/BitSet")) Bd.returns rfl rfl rfl (hb hby d71m15_24) (Nat.le_of_ble_eq_true rfl) (Nat.le_of_ble_eq_true rfl) ?_
  have Vp478 : OView Z _ T477.heap (oS a477 [(.int (1 : Int32)), (.int (0 : Int32)), (.ref e477)] :: oB e477 [(gj GG (2 : Int32))] :: oP a [(.ref ap), (.ref as), (.ref aq), (.ref ax), (.ref ak), (.int (2 : Int32)), (.ref ag), (.ref ab), (.int (2 : Int32))] :: oB ag GG :: F) := (((V477v.bring 3 rfl).bring 2 rfl).bring 2 rfl)
  exact ⟨a477, e477, rfl, N477, Vp478, O477q⟩
theorem ef_gtd212 (m : MethodId) (x0 : Addr) (x1 : Int32) : entryFrame m #[(.ref x0), (.int x1)] 2 = mkF m 0 #[.val (.ref x0), .val (.int x1)] [] := by first | (simp [entryFrame, mkF, argsToLocals, Value.category]; done) | rfl
def Q_gtd212 (Z : State) (a : Addr) (ap : Addr) (as : Addr) (aq : Addr) (ax : Addr) (ak : Addr) (ag : Addr) (ab : Addr) (GG : List Int64) (h0 : Heap) (n0 : Nat) (F : List (Addr × OObj)) (v : Option Value) (h : Heap) (L : List Loc) : Prop := ∃ u e : Addr, v = some (.ref u) ∧ Fr n0 L ∧ OView Z n0 h (oS u [(.int (2 : Int32)), (.int (0 : Int32)), (.ref e)] :: oB e [(gj GG (2 : Int32)), (gj GG (3 : Int32))] :: oP a [(.ref ap), (.ref as), (.ref aq), (.ref ax), (.ref ak), (.int (2 : Int32)), (.ref ag), (.ref ab), (.int (2 : Int32))] :: oB ag GG :: F) ∧ Old Z n0 h
set_option maxRecDepth 65536 in
set_option maxHeartbeats 40000000 in
theorem rm_gtd212 (l : Launch) (Z : State) (a0 : Array Value) (hw : ∀ d ∈ tables_1, d.before a0 Z = true) (ws : List Jvm.Cond) (a : Addr) (ap : Addr) (as : Addr) (aq : Addr) (ax : Addr) (ak : Addr) (ag : Addr) (ab : Addr) (GG : List Int64) (h0 : Heap) (n0 : Nat) (F : List (Addr × OObj)) (Z0 : n0 ≤ h0.size) (SA : Sta Z Z.heap "java/util/BitSet" "$assertionsDisabled" "Z" (.int (1 : Int32))) (hlG : GG.length = 32) (z1 : ¬ (gj GG (3 : Int32)) = (0 : Int64)) (V0 : OView Z n0 h0 (oP a [(.ref ap), (.ref as), (.ref aq), (.ref ax), (.ref ak), (.int (2 : Int32)), (.ref ag), (.ref ab), (.int (2 : Int32))] :: oB ag GG :: F)) (O0 : Old Z n0 h0) :
    MetFree l (⟨"com/example/inya/inya/SearchPath", "gathered", "(I)Ljava/util/BitSet;"⟩ : MethodName) (head1 (Jvm.Cond.code (⟨"com/example/inya/inya/SearchPath", "gathered", "(I)Ljava/util/BitSet;"⟩ : MethodName) prog_71_method_15_code 2 (some (.object "java/util/BitSet")) :: ws) ({ frames := 3, cells := 3, slots := 7, locals := 48 } : Room)) (fun a_ U => a_ = #[(.ref a), (.int (1 : Int32))] ∧ Z.Warmed39 U.vm ∧ U.heap = h0) (fun _ _ _ _ _ => True) (fun _ U o U' => ∃ v L, o = .returned v ∧ Q_gtd212 Z a ap as aq ax ak ag ab GG h0 n0 F v U'.heap L ∧ FrameEnd U o U' L ({ frames := 3, cells := 3, slots := 7, locals := 48 } : Room).cells ({ frames := 3, cells := 3, slots := 7, locals := 48 } : Room).slots) := by
  refine MetFree.of_bodySF (plainFor_of_name pn_0) hisR ?_
  intro p e s m args below meth c s₁ Bd hml0 hP hK
  obtain ⟨rfl, hZ, hh⟩ := hP
  have hx := Bd.exec
  have hby := Bd.bytes
  have hlk : meth.locks = false := Bd.notSynchronized
  have hml : c.maxLocals = 2 := hml0
  have hown : s.vm.findClass "com/example/inya/inya/SearchPath" = some m.cls := findClass_of_methodNamed Bd.named
  have hnm := (name_of_methodNamed Bd.named Bd.method).1
  have X0 : Stand p l e ({ frames := 3, cells := 3, slots := 7, locals := 48 } : Room) s m #[(.ref a), (.int (1 : Int32))] below meth c s₁ [] 0 0 := Stand.of_body Bd
  have e0 : s₁.heap = h0 := by rw [← hh, Bd.state]; rfl
  have N0 := Fr.nil n0
  show OGets p e below (OLeaves s (Q_gtd212 Z a ap as aq ax ak ag ab GG h0 n0 F ) ({ frames := 3, cells := 3, slots := 7, locals := 48 } : Room).cells ({ frames := 3, cells := 3, slots := 7, locals := 48 } : Room).slots) _
  refine OGets.enter (ef_gtd212 m a (1 : Int32)) ?_
  show OGets p e below _ (s₁.setTop (mkF m 0 #[rv a, iv (1 : Int32)] []))
  refine OGets.step (fun _ => XS.aloadN X0.here hx rfl (hb hby d71m15_0) rfl rfl) ?_
  obtain ⟨T479, X479, e479, st479⟩ := getF X0 hx hZ hown (host := "") (Or.inl (ow hw 25 rfl)) Via.refl e0 (V0.fld 0 rfl 6 rfl rfl) (g := (mkF m 1 #[rv a, iv (1 : Int32)] [(.ref a)])) rfl rfl (hb hby d71m15_1)
  refine OGets.step st479 ?_
  refine OGets.step (fun _ => XS.iloadN X479.here hx rfl (hb hby d71m15_4) rfl) ?_
  refine OGets.step (fun _ => XS.aloadN X479.here hx rfl (hb hby d71m15_5) rfl rfl) ?_
  obtain ⟨T480, X480, e480, st480⟩ := getF X479 hx hZ hown (host := "") (Or.inl (ow hw 23 rfl)) Via.refl e479 (V0.fld 0 rfl 5 rfl rfl) (g := (mkF m 6 #[rv a, iv (1 : Int32)] [(.ref a), (.int (1 : Int32)), (.ref ag)])) rfl rfl (hb hby d71m15_6)
  refine OGets.step st480 ?_
  refine OGets.step (fun _ => XS.imul X480.here hx rfl (hb hby d71m15_9) rfl) ?_
  show OGets p e below _ (T480.setTop (mkF m 10 #[rv a, iv (1 : Int32)] [(.int (2 : Int32)), (.ref ag)]))
  refine OGets.step (fun _ => XS.iloadN X480.here hx rfl (hb hby d71m15_10) rfl) ?_
  refine OGets.step (fun _ => XS.iconst X480.here hx rfl (hb hby d71m15_11)) ?_
  refine OGets.step (fun _ => XS.iadd X480.here hx rfl (hb hby d71m15_12) rfl) ?_
  show OGets p e below _ (T480.setTop (mkF m 13 #[rv a, iv (1 : Int32)] [(.int (2 : Int32)), (.int (2 : Int32)), (.ref ag)]))
  refine OGets.step (fun _ => XS.aloadN X480.here hx rfl (hb hby d71m15_13) rfl rfl) ?_
  obtain ⟨T481, X481, e481, st481⟩ := getF X480 hx hZ hown (host := "") (Or.inl (ow hw 23 rfl)) Via.refl e480 (V0.fld 0 rfl 5 rfl rfl) (g := (mkF m 14 #[rv a, iv (1 : Int32)] [(.ref a), (.int (2 : Int32)), (.int (2 : Int32)), (.ref ag)])) rfl rfl (hb hby d71m15_14)
  refine OGets.step st481 ?_
  refine OGets.step (fun _ => XS.imul X481.here hx rfl (hb hby d71m15_17) rfl) ?_
  show OGets p e below _ (T481.setTop (mkF m 18 #[rv a, iv (1 : Int32)] [(.int (4 : Int32)), (.int (2 : Int32)), (.ref ag)]))
  have V482_ : OView Z _ h0 (oB ag GG :: oP a [(.ref ap), (.ref as), (.ref aq), (.ref ax), (.ref ak), (.int (2 : Int32)), (.ref ag), (.ref ab), (.int (2 : Int32))] :: F) := (V0.bring 1 rfl)
  obtain ⟨_, _, ⟨T482, L482, k482, n482⟩, -, X482, ⟨Lc482, hQ482, l482, y482, z482⟩, st482⟩ := Jvm.LawKit.callS X481 hx (y := (⟨"java/util/Arrays", "copyOfRange", "([JII)[J"⟩ : MethodName)) hown (mvT hZ (ow hw 53 rfl)) (mvT hZ (ow hw 54 rfl)) (mvT hZ (ow hw 38 rfl)) (mvT hZ (ow hw 55 rfl)) (by decide) (backOf (W := 0) (rm_cr21 l Z a0 hw [] ag GG h0 n0 _ Z0 (by simp only [sj_len, List.length_replicate, hlG]) V482_ O0) hZ (ow hw 55 rfl) (ow hw 38 rfl) (by decide) (by decide)) (g := (mkF m 18 #[rv a, iv (1 : Int32)] [(.int (4 : Int32)), (.int (2 : Int32)), (.ref ag)])) rfl (by rw [hml]; rfl) (argsL := [(.ref ag), (.int (2 : Int32)), (.int (4 : Int32))]) (rest := []) (lenOf pd_6 rfl) rfl (by show 2 * 0 + _ ≤ _; exact Nat.le_of_eq rfl) (hb hby d71m15_18) (fun _ _ => ⟨rfl, e481, Nat.le_of_ble_eq_true rfl, Nat.le_of_ble_eq_true rfl⟩)
  dsimp only [Pt.U, Pt.locs, Pt.cells, Pt.slots] at X482 l482 y482 z482 st482 hQ482
  rw [l482, y482, z482] at X482
  obtain ⟨d482, rfl, N482q, V482, O482q⟩ := hQ482
  have N482 := Fr.app N0 N482q
  have V482v : OView Z n0 T482.heap (oB d482 [(gj GG (2 : Int32)), (gj GG (3 : Int32))] :: oB ag GG :: oP a [(.ref ap), (.ref as), (.ref aq), (.ref ax), (.ref ak), (.int (2 : Int32)), (.ref ag), (.ref ab), (.int (2 : Int32))] :: F) := V482
  have Z482 : n0 ≤ T482.heap.size := V482v.big 0 rfl
  refine OGets.step st482 ?_
  obtain ⟨_, _, ⟨T483, L483, k483, n483⟩, -, X483, ⟨Lc483, hQ483, l483, y483, z483⟩, st483⟩ := Jvm.LawKit.callS X482 hx (y := (⟨"java/util/BitSet", "valueOf", "([J)Ljava/util/BitSet;"⟩ : MethodName)) hown (mvT hZ (ow hw 70 rfl)) (mvT hZ (ow hw 71 rfl)) (mvT hZ (ow hw 72 rfl)) (mvT hZ (ow hw 73 rfl)) (by decide) (backOf (W := 0) (rm_vo22 l Z a0 hw [] d482 (gj GG (2 : Int32)) (gj GG (3 : Int32)) T482.heap n0 _ Z482 SA z1 V482v O482q) hZ (ow hw 73 rfl) (ow hw 72 rfl) (by decide) (by decide)) (g := (mkF m 21 #[rv a, iv (1 : Int32)] [(.ref d482)])) rfl (by rw [hml]; rfl) (argsL := [(.ref d482)]) (rest := []) (lenOf pd_11 rfl) rfl (by show 2 * 0 + _ ≤ _; exact Nat.le_of_eq rfl) (hb hby d71m15_21) (fun _ _ => ⟨rfl, rfl, Nat.le_of_ble_eq_true rfl, Nat.le_of_ble_eq_true rfl⟩)
  dsimp only [Pt.U, Pt.locs, Pt.cells, Pt.slots] at X483 l483 y483 z483 st483 hQ483
  rw [l483, y483, z483] at X483
  obtain ⟨a483, e483, rfl, N483q, V483, O483q⟩ := hQ483
  have N483 := Fr.app N482 N483q
  have V483v : OView Z n0 T483.heap (oS a483 [(.int (2 : Int32)), (.int (0 : Int32)), (.ref e483)] :: oB e483 [(gj GG (2 : Int32)), (gj GG (3 : Int32))] :: oB ag GG :: oP a [(.ref ap), (.ref as), (.ref aq), (.ref ax), (.ref ak), (.int (2 : Int32)), (.ref ag), (.ref ab), (.int (2 : Int32))] :: F) := V483
  have Z483 : n0 ≤ T483.heap.size := V483v.big 0 rfl
  refine OGets.step st483 ?_
  refine OGets.retA X483 hx hlk (t := (.object "java/util/BitSet")) Bd.returns rfl rfl rfl (hb hby d71m15_24) (Nat.le_of_ble_eq_true rfl) (Nat.le_of_ble_eq_true rfl) ?_
  have Vp484 : OView Z _ T483.heap (oS a483 [(.int (2 : Int32)), (.int (0 : Int32)), (.ref e483)] :: oB e483 [(gj GG (2 : Int32)), (gj GG (3 : Int32))] :: oP a [(.ref ap), (.ref as), (.ref aq), (.ref ax), (.ref ak), (.int (2 : Int32)), (.ref ag), (.ref ab), (.int (2 : Int32))] :: oB ag GG :: F) := (((V483v.bring 3 rfl).bring 2 rfl).bring 2 rfl)
  exact ⟨a483, e483, rfl, N483, Vp484, O483q⟩
theorem pn_12 : plainName "com/example/inya/inya/SearchPathGatherPinLaw" = true := by first | (simp [plainName, overriddenIn]; done) | decide +kernel
theorem dm2_0 : decode method_2_code 0 = .ok (.lload_n 3, 1) := by decide +kernel
theorem dm2_1 : decode method_2_code 1 = .ok (.lconst 0, 1) := by decide +kernel
theorem dm2_2 : decode method_2_code 2 = .ok (.lcmp, 1) := by decide +kernel
theorem dm2_3 : decode method_2_code 3 = .ok (.ifCond .eq 31, 3) := by decide +kernel
theorem dm2_34 : decode method_2_code 34 = .ok (.lload_n 1, 1) := by decide +kernel
theorem dm2_35 : decode method_2_code 35 = .ok (.lconst 0, 1) := by decide +kernel
theorem dm2_36 : decode method_2_code 36 = .ok (.lcmp, 1) := by decide +kernel
theorem dm2_37 : decode method_2_code 37 = .ok (.ifCond .eq 23, 3) := by decide +kernel
theorem dm2_60 : decode method_2_code 60 = .ok (.aload_n 0, 1) := by decide +kernel
theorem dm2_61 : decode method_2_code 61 = .ok (.arraylength, 1) := by decide +kernel
theorem dm2_62 : decode method_2_code 62 = .ok (.ifCond .ne 7, 3) := by decide +kernel
theorem dm2_65 : decode method_2_code 65 = .ok (.iconst 1, 1) := by decide +kernel
theorem dm2_66 : decode method_2_code 66 = .ok (.goto 4, 3) := by decide +kernel
theorem dm2_70 : decode method_2_code 70 = .ok (.ireturn, 1) := by decide +kernel
theorem ef_mt0 (m : MethodId) (x0 : Addr) (x1 : Int64) (x2 : Int64) : entryFrame m #[(.ref x0), (.long x1), (.long x2)] 5 = mkF m 0 #[.val (.ref x0), .val (.long x1), .second, .val (.long x2), .second] [] := by first | (simp [entryFrame, mkF, argsToLocals, Value.category]; done) | rfl
def Q_mt0 (Z : State) (d : Addr) (j0 : Int64) (j1 : Int64) (h0 : Heap) (n0 : Nat) (F : List (Addr × OObj)) (v : Option Value) (h : Heap) (L : List Loc) : Prop := v = some (.int (1 : Int32)) ∧ L = [] ∧ h = h0
set_option maxRecDepth 65536 in
set_option maxHeartbeats 40000000 in
theorem rm_mt0 (l : Launch) (Z : State) (a0 : Array Value) (hw : ∀ d ∈ tables_1, d.before a0 Z = true) (ws : List Jvm.Cond) (d : Addr) (j0 : Int64) (j1 : Int64) (h0 : Heap) (n0 : Nat) (F : List (Addr × OObj)) (Z0 : n0 ≤ h0.size) (y1 : j1 = (0 : Int64)) (y0 : j0 = (0 : Int64)) (V0 : OView Z n0 h0 (oB d [] :: F)) :
    MetFree l (⟨"com/example/inya/inya/SearchPathGatherPinLaw", "matches", "([JJJ)Z"⟩ : MethodName) (head1 (Jvm.Cond.code (⟨"com/example/inya/inya/SearchPathGatherPinLaw", "matches", "([JJJ)Z"⟩ : MethodName) method_2_code 5 (some .boolean) :: ws) ({ frames := 0, cells := 0, slots := 0, locals := 0 } : Room)) (fun a_ U => a_ = #[(.ref d), (.long j0), (.long j1)] ∧ Z.Warmed39 U.vm ∧ U.heap = h0) (fun _ _ _ _ _ => True) (fun _ U o U' => ∃ v L, o = .returned v ∧ Q_mt0 Z d j0 j1 h0 n0 F v U'.heap L ∧ FrameEnd U o U' L ({ frames := 0, cells := 0, slots := 0, locals := 0 } : Room).cells ({ frames := 0, cells := 0, slots := 0, locals := 0 } : Room).slots) := by
  refine MetFree.of_bodySF (plainFor_of_name pn_12) hisR ?_
  intro p e s m args below meth c s₁ Bd hml0 hP hK
  obtain ⟨rfl, hZ, hh⟩ := hP
  have hx := Bd.exec
  have hby := Bd.bytes
  have hlk : meth.locks = false := Bd.notSynchronized
  have hml : c.maxLocals = 5 := hml0
  have hown : s.vm.findClass "com/example/inya/inya/SearchPathGatherPinLaw" = some m.cls := findClass_of_methodNamed Bd.named
  have hnm := (name_of_methodNamed Bd.named Bd.method).1
  have X0 : Stand p l e ({ frames := 0, cells := 0, slots := 0, locals := 0 } : Room) s m #[(.ref d), (.long j0), (.long j1)] below meth c s₁ [] 0 0 := Stand.of_body Bd
  have e0 : s₁.heap = h0 := by rw [← hh, Bd.state]; rfl
  have N0 := Fr.nil n0
  show OGets p e below (OLeaves s (Q_mt0 Z d j0 j1 h0 n0 F ) ({ frames := 0, cells := 0, slots := 0, locals := 0 } : Room).cells ({ frames := 0, cells := 0, slots := 0, locals := 0 } : Room).slots) _
  refine OGets.enter (ef_mt0 m d j0 j1) ?_
  show OGets p e below _ (s₁.setTop (mkF m 0 #[rv d, jv j0, sv, jv j1, sv] []))
  refine OGets.step (fun _ => XS.lloadN X0.here hx rfl (hb hby dm2_0) rfl) ?_
  refine OGets.step (fun _ => XS.lconst X0.here hx rfl (hb hby dm2_1)) ?_
  refine OGets.step (fun _ => XS.lcmp X0.here hx rfl (hb hby dm2_2) rfl) ?_
  refine OGets.step (fun _ => XS.ifYes X0.here hx rfl (pc0 := 3) (pc' := 34) rfl (hb hby dm2_3) rfl ((if0 _ _).trans (teq ((lw_eq _ _).mpr (y1 : j1 = (0 : Int64)))).1) (by decide) (by decide)) ?_
  refine OGets.step (fun _ => XS.lloadN X0.here hx rfl (hb hby dm2_34) rfl) ?_
  refine OGets.step (fun _ => XS.lconst X0.here hx rfl (hb hby dm2_35)) ?_
  show OGets p e below _ (s₁.setTop (mkF m 36 #[rv d, jv j0, sv, jv j1, sv] [(.long (0 : Int64)), (.long j0)]))
  refine OGets.step (fun _ => XS.lcmp X0.here hx rfl (hb hby dm2_36) rfl) ?_
  refine OGets.step (fun _ => XS.ifYes X0.here hx rfl (pc0 := 37) (pc' := 60) rfl (hb hby dm2_37) rfl ((if0 _ _).trans (teq ((lw_eq _ _).mpr (y0 : j0 = (0 : Int64)))).1) (by decide) (by decide)) ?_
  refine OGets.step (fun _ => XS.aloadN X0.here hx rfl (hb hby dm2_60) rfl rfl) ?_
  obtain ⟨cl487, Ar487, S487⟩ := V0.arr 0 rfl
  have ln487 : cl487.slots.size.toInt32 = (0 : Int32) := by rw [own_len S487]; rfl
  refine OGets.step (U' := s₁.setTop (mkF m 62 #[rv d, jv j0, sv, jv j1, sv] [(.int (0 : Int32))])) (fun t kt => ?_) ?_
  · refine X0.arraylength hx (by rw [e0]; exact Ar487.1) (State.isArrayOf_alike hZ.alike Ar487.2.1) (g := (mkF m 61 #[rv d, jv j0, sv, jv j1, sv] [(.ref d)])) rfl rfl (hb hby dm2_61) _ ?_
    rw [ln487]; exact kt
  refine OGets.step (fun _ => XS.ifNo X0.here hx rfl (hb hby dm2_62) rfl ((if0 _ _).trans (teq (by decide : (0 : Int32) = (0 : Int32))).2)) ?_
  refine OGets.step (fun _ => XS.iconst X0.here hx rfl (hb hby dm2_65)) ?_
  show OGets p e below _ (s₁.setTop (mkF m 66 #[rv d, jv j0, sv, jv j1, sv] [(.int (1 : Int32))]))
  refine OGets.step (fun _ => XS.goto X0.here hx rfl (pc0 := 66) (pc' := 70) rfl (hb hby dm2_66) (by decide) (by decide)) ?_
  refine OGets.retN X0 hx hlk (t := .boolean) Bd.returns (by simp) (hb hby dm2_70) (Nat.le_of_ble_eq_true rfl) (Nat.le_of_ble_eq_true rfl) ?_
  exact ⟨congrArg (fun z => some (Value.int z)) (show _ = (1 : Int32) from by decide), rfl, e0⟩
theorem dm2_40 : decode method_2_code 40 = .ok (.aload_n 0, 1) := by decide +kernel
theorem dm2_41 : decode method_2_code 41 = .ok (.arraylength, 1) := by decide +kernel
theorem dm2_42 : decode method_2_code 42 = .ok (.iconst 1, 1) := by decide +kernel
theorem dm2_43 : decode method_2_code 43 = .ok (.if_icmp .ne 15, 3) := by decide +kernel
theorem dm2_46 : decode method_2_code 46 = .ok (.aload_n 0, 1) := by decide +kernel
theorem dm2_47 : decode method_2_code 47 = .ok (.iconst 0, 1) := by decide +kernel
theorem dm2_48 : decode method_2_code 48 = .ok (.laload, 1) := by decide +kernel
theorem dm2_49 : decode method_2_code 49 = .ok (.lload_n 1, 1) := by decide +kernel
theorem dm2_50 : decode method_2_code 50 = .ok (.lcmp, 1) := by decide +kernel
theorem dm2_51 : decode method_2_code 51 = .ok (.ifCond .ne 7, 3) := by decide +kernel
theorem dm2_54 : decode method_2_code 54 = .ok (.iconst 1, 1) := by decide +kernel
theorem dm2_55 : decode method_2_code 55 = .ok (.goto 4, 3) := by decide +kernel
theorem dm2_59 : decode method_2_code 59 = .ok (.ireturn, 1) := by decide +kernel
theorem ef_mt1 (m : MethodId) (x0 : Addr) (x1 : Int64) (x2 : Int64) : entryFrame m #[(.ref x0), (.long x1), (.long x2)] 5 = mkF m 0 #[.val (.ref x0), .val (.long x1), .second, .val (.long x2), .second] [] := by first | (simp [entryFrame, mkF, argsToLocals, Value.category]; done) | rfl
def Q_mt1 (Z : State) (d : Addr) (j0 : Int64) (j1 : Int64) (x0 : Int64) (h0 : Heap) (n0 : Nat) (F : List (Addr × OObj)) (v : Option Value) (h : Heap) (L : List Loc) : Prop := v = some (.int (1 : Int32)) ∧ L = [] ∧ h = h0
set_option maxRecDepth 65536 in
set_option maxHeartbeats 40000000 in
theorem rm_mt1 (l : Launch) (Z : State) (a0 : Array Value) (hw : ∀ d ∈ tables_1, d.before a0 Z = true) (ws : List Jvm.Cond) (d : Addr) (j0 : Int64) (j1 : Int64) (x0 : Int64) (h0 : Heap) (n0 : Nat) (F : List (Addr × OObj)) (Z0 : n0 ≤ h0.size) (y1 : j1 = (0 : Int64)) (y0 : ¬ j0 = (0 : Int64)) (g0 : x0 = j0) (V0 : OView Z n0 h0 (oB d [x0] :: F)) :
    MetFree l (⟨"com/example/inya/inya/SearchPathGatherPinLaw", "matches", "([JJJ)Z"⟩ : MethodName) (head1 (Jvm.Cond.code (⟨"com/example/inya/inya/SearchPathGatherPinLaw", "matches", "([JJJ)Z"⟩ : MethodName) method_2_code 5 (some .boolean) :: ws) ({ frames := 0, cells := 0, slots := 0, locals := 0 } : Room)) (fun a_ U => a_ = #[(.ref d), (.long j0), (.long j1)] ∧ Z.Warmed39 U.vm ∧ U.heap = h0) (fun _ _ _ _ _ => True) (fun _ U o U' => ∃ v L, o = .returned v ∧ Q_mt1 Z d j0 j1 x0 h0 n0 F v U'.heap L ∧ FrameEnd U o U' L ({ frames := 0, cells := 0, slots := 0, locals := 0 } : Room).cells ({ frames := 0, cells := 0, slots := 0, locals := 0 } : Room).slots) := by
  refine MetFree.of_bodySF (plainFor_of_name pn_12) hisR ?_
  intro p e s m args below meth c s₁ Bd hml0 hP hK
  obtain ⟨rfl, hZ, hh⟩ := hP
  have hx := Bd.exec
  have hby := Bd.bytes
  have hlk : meth.locks = false := Bd.notSynchronized
  have hml : c.maxLocals = 5 := hml0
  have hown : s.vm.findClass "com/example/inya/inya/SearchPathGatherPinLaw" = some m.cls := findClass_of_methodNamed Bd.named
  have hnm := (name_of_methodNamed Bd.named Bd.method).1
  have X0 : Stand p l e ({ frames := 0, cells := 0, slots := 0, locals := 0 } : Room) s m #[(.ref d), (.long j0), (.long j1)] below meth c s₁ [] 0 0 := Stand.of_body Bd
  have e0 : s₁.heap = h0 := by rw [← hh, Bd.state]; rfl
  have N0 := Fr.nil n0
  show OGets p e below (OLeaves s (Q_mt1 Z d j0 j1 x0 h0 n0 F ) ({ frames := 0, cells := 0, slots := 0, locals := 0 } : Room).cells ({ frames := 0, cells := 0, slots := 0, locals := 0 } : Room).slots) _
  refine OGets.enter (ef_mt1 m d j0 j1) ?_
  show OGets p e below _ (s₁.setTop (mkF m 0 #[rv d, jv j0, sv, jv j1, sv] []))
  refine OGets.step (fun _ => XS.lloadN X0.here hx rfl (hb hby dm2_0) rfl) ?_
  refine OGets.step (fun _ => XS.lconst X0.here hx rfl (hb hby dm2_1)) ?_
  refine OGets.step (fun _ => XS.lcmp X0.here hx rfl (hb hby dm2_2) rfl) ?_
  refine OGets.step (fun _ => XS.ifYes X0.here hx rfl (pc0 := 3) (pc' := 34) rfl (hb hby dm2_3) rfl ((if0 _ _).trans (teq ((lw_eq _ _).mpr (y1 : j1 = (0 : Int64)))).1) (by decide) (by decide)) ?_
  refine OGets.step (fun _ => XS.lloadN X0.here hx rfl (hb hby dm2_34) rfl) ?_
  refine OGets.step (fun _ => XS.lconst X0.here hx rfl (hb hby dm2_35)) ?_
  show OGets p e below _ (s₁.setTop (mkF m 36 #[rv d, jv j0, sv, jv j1, sv] [(.long (0 : Int64)), (.long j0)]))
  refine OGets.step (fun _ => XS.lcmp X0.here hx rfl (hb hby dm2_36) rfl) ?_
  refine OGets.step (fun _ => XS.ifNo X0.here hx rfl (hb hby dm2_37) rfl ((if0 _ _).trans (feq (fun q => (y0 : ¬ (j0 = (0 : Int64))) ((lw_eq _ _).mp q))).1)) ?_
  refine OGets.step (fun _ => XS.aloadN X0.here hx rfl (hb hby dm2_40) rfl rfl) ?_
  obtain ⟨cl491, Ar491, S491⟩ := V0.arr 0 rfl
  have ln491 : cl491.slots.size.toInt32 = (1 : Int32) := by rw [own_len S491]; rfl
  refine OGets.step (U' := s₁.setTop (mkF m 42 #[rv d, jv j0, sv, jv j1, sv] [(.int (1 : Int32))])) (fun t kt => ?_) ?_
  · refine X0.arraylength hx (by rw [e0]; exact Ar491.1) (State.isArrayOf_alike hZ.alike Ar491.2.1) (g := (mkF m 41 #[rv d, jv j0, sv, jv j1, sv] [(.ref d)])) rfl rfl (hb hby dm2_41) _ ?_
    rw [ln491]; exact kt
  refine OGets.step (fun _ => XS.iconst X0.here hx rfl (hb hby dm2_42)) ?_
  refine OGets.step (fun _ => XS.icmpNo X0.here hx rfl (hb hby dm2_43) rfl (teq (by decide : (1 : Int32) = (1 : Int32))).2) ?_
  show OGets p e below _ (s₁.setTop (mkF m 46 #[rv d, jv j0, sv, jv j1, sv] []))
  refine OGets.step (fun _ => XS.aloadN X0.here hx rfl (hb hby dm2_46) rfl rfl) ?_
  refine OGets.step (fun _ => XS.iconst X0.here hx rfl (hb hby dm2_47)) ?_
  obtain ⟨cl493, Ar493, S493⟩ := V0.arr 0 rfl
  refine OGets.step (fun _ => X0.laload hx (j := (0 : Int32)) (v := (.long x0)) (by rw [e0]; exact Ar493.1) (State.isArrayOf_alike hZ.alike Ar493.2.1) Ar493.2.2 (own_inb S493 0 (by decide) (Nat.le_of_ble_eq_true rfl)) (own_get S493 0 (by decide) rfl) (g := (mkF m 48 #[rv d, jv j0, sv, jv j1, sv] [(.int (0 : Int32)), (.ref d)])) rfl rfl (hb hby dm2_48) _) ?_
  refine OGets.step (fun _ => XS.lloadN X0.here hx rfl (hb hby dm2_49) rfl) ?_
  refine OGets.step (fun _ => XS.lcmp X0.here hx rfl (hb hby dm2_50) rfl) ?_
  refine OGets.step (fun _ => XS.ifNo X0.here hx rfl (hb hby dm2_51) rfl ((if0 _ _).trans (teq ((lw_eq _ _).mpr (g0 : x0 = j0))).2)) ?_
  show OGets p e below _ (s₁.setTop (mkF m 54 #[rv d, jv j0, sv, jv j1, sv] []))
  refine OGets.step (fun _ => XS.iconst X0.here hx rfl (hb hby dm2_54)) ?_
  refine OGets.step (fun _ => XS.goto X0.here hx rfl (pc0 := 55) (pc' := 59) rfl (hb hby dm2_55) (by decide) (by decide)) ?_
  refine OGets.retN X0 hx hlk (t := .boolean) Bd.returns (by simp) (hb hby dm2_59) (Nat.le_of_ble_eq_true rfl) (Nat.le_of_ble_eq_true rfl) ?_
  exact ⟨congrArg (fun z => some (Value.int z)) (show _ = (1 : Int32) from by decide), rfl, e0⟩
theorem dm2_6 : decode method_2_code 6 = .ok (.aload_n 0, 1) := by decide +kernel
theorem dm2_7 : decode method_2_code 7 = .ok (.arraylength, 1) := by decide +kernel
theorem dm2_8 : decode method_2_code 8 = .ok (.iconst 2, 1) := by decide +kernel
theorem dm2_9 : decode method_2_code 9 = .ok (.if_icmp .ne 23, 3) := by decide +kernel
theorem dm2_12 : decode method_2_code 12 = .ok (.aload_n 0, 1) := by decide +kernel
theorem dm2_13 : decode method_2_code 13 = .ok (.iconst 0, 1) := by decide +kernel
theorem dm2_14 : decode method_2_code 14 = .ok (.laload, 1) := by decide +kernel
theorem dm2_15 : decode method_2_code 15 = .ok (.lload_n 1, 1) := by decide +kernel
theorem dm2_16 : decode method_2_code 16 = .ok (.lcmp, 1) := by decide +kernel
theorem dm2_17 : decode method_2_code 17 = .ok (.ifCond .ne 15, 3) := by decide +kernel
theorem dm2_20 : decode method_2_code 20 = .ok (.aload_n 0, 1) := by decide +kernel
theorem dm2_21 : decode method_2_code 21 = .ok (.iconst 1, 1) := by decide +kernel
theorem dm2_22 : decode method_2_code 22 = .ok (.laload, 1) := by decide +kernel
theorem dm2_23 : decode method_2_code 23 = .ok (.lload_n 3, 1) := by decide +kernel
theorem dm2_24 : decode method_2_code 24 = .ok (.lcmp, 1) := by decide +kernel
theorem dm2_25 : decode method_2_code 25 = .ok (.ifCond .ne 7, 3) := by decide +kernel
theorem dm2_28 : decode method_2_code 28 = .ok (.iconst 1, 1) := by decide +kernel
theorem dm2_29 : decode method_2_code 29 = .ok (.goto 4, 3) := by decide +kernel
theorem dm2_33 : decode method_2_code 33 = .ok (.ireturn, 1) := by decide +kernel
theorem ef_mt2 (m : MethodId) (x0 : Addr) (x1 : Int64) (x2 : Int64) : entryFrame m #[(.ref x0), (.long x1), (.long x2)] 5 = mkF m 0 #[.val (.ref x0), .val (.long x1), .second, .val (.long x2), .second] [] := by first | (simp [entryFrame, mkF, argsToLocals, Value.category]; done) | rfl
def Q_mt2 (Z : State) (d : Addr) (j0 : Int64) (j1 : Int64) (x0 : Int64) (x1 : Int64) (h0 : Heap) (n0 : Nat) (F : List (Addr × OObj)) (v : Option Value) (h : Heap) (L : List Loc) : Prop := v = some (.int (1 : Int32)) ∧ L = [] ∧ h = h0
set_option maxRecDepth 65536 in
set_option maxHeartbeats 40000000 in
theorem rm_mt2 (l : Launch) (Z : State) (a0 : Array Value) (hw : ∀ d ∈ tables_1, d.before a0 Z = true) (ws : List Jvm.Cond) (d : Addr) (j0 : Int64) (j1 : Int64) (x0 : Int64) (x1 : Int64) (h0 : Heap) (n0 : Nat) (F : List (Addr × OObj)) (Z0 : n0 ≤ h0.size) (y1 : ¬ j1 = (0 : Int64)) (g0 : x0 = j0) (g1 : x1 = j1) (V0 : OView Z n0 h0 (oB d [x0, x1] :: F)) :
    MetFree l (⟨"com/example/inya/inya/SearchPathGatherPinLaw", "matches", "([JJJ)Z"⟩ : MethodName) (head1 (Jvm.Cond.code (⟨"com/example/inya/inya/SearchPathGatherPinLaw", "matches", "([JJJ)Z"⟩ : MethodName) method_2_code 5 (some .boolean) :: ws) ({ frames := 0, cells := 0, slots := 0, locals := 0 } : Room)) (fun a_ U => a_ = #[(.ref d), (.long j0), (.long j1)] ∧ Z.Warmed39 U.vm ∧ U.heap = h0) (fun _ _ _ _ _ => True) (fun _ U o U' => ∃ v L, o = .returned v ∧ Q_mt2 Z d j0 j1 x0 x1 h0 n0 F v U'.heap L ∧ FrameEnd U o U' L ({ frames := 0, cells := 0, slots := 0, locals := 0 } : Room).cells ({ frames := 0, cells := 0, slots := 0, locals := 0 } : Room).slots) := by
  refine MetFree.of_bodySF (plainFor_of_name pn_12) hisR ?_
  intro p e s m args below meth c s₁ Bd hml0 hP hK
  obtain ⟨rfl, hZ, hh⟩ := hP
  have hx := Bd.exec
  have hby := Bd.bytes
  have hlk : meth.locks = false := Bd.notSynchronized
  have hml : c.maxLocals = 5 := hml0
  have hown : s.vm.findClass "com/example/inya/inya/SearchPathGatherPinLaw" = some m.cls := findClass_of_methodNamed Bd.named
  have hnm := (name_of_methodNamed Bd.named Bd.method).1
  have X0 : Stand p l e ({ frames := 0, cells := 0, slots := 0, locals := 0 } : Room) s m #[(.ref d), (.long j0), (.long j1)] below meth c s₁ [] 0 0 := Stand.of_body Bd
  have e0 : s₁.heap = h0 := by rw [← hh, Bd.state]; rfl
  have N0 := Fr.nil n0
  show OGets p e below (OLeaves s (Q_mt2 Z d j0 j1 x0 x1 h0 n0 F ) ({ frames := 0, cells := 0, slots := 0, locals := 0 } : Room).cells ({ frames := 0, cells := 0, slots := 0, locals := 0 } : Room).slots) _
  refine OGets.enter (ef_mt2 m d j0 j1) ?_
  show OGets p e below _ (s₁.setTop (mkF m 0 #[rv d, jv j0, sv, jv j1, sv] []))
  refine OGets.step (fun _ => XS.lloadN X0.here hx rfl (hb hby dm2_0) rfl) ?_
  refine OGets.step (fun _ => XS.lconst X0.here hx rfl (hb hby dm2_1)) ?_
  refine OGets.step (fun _ => XS.lcmp X0.here hx rfl (hb hby dm2_2) rfl) ?_
  refine OGets.step (fun _ => XS.ifNo X0.here hx rfl (hb hby dm2_3) rfl ((if0 _ _).trans (feq (fun q => (y1 : ¬ (j1 = (0 : Int64))) ((lw_eq _ _).mp q))).1)) ?_
  refine OGets.step (fun _ => XS.aloadN X0.here hx rfl (hb hby dm2_6) rfl rfl) ?_
  obtain ⟨cl496, Ar496, S496⟩ := V0.arr 0 rfl
  have ln496 : cl496.slots.size.toInt32 = (2 : Int32) := by rw [own_len S496]; rfl
  refine OGets.step (U' := s₁.setTop (mkF m 8 #[rv d, jv j0, sv, jv j1, sv] [(.int (2 : Int32))])) (fun t kt => ?_) ?_
  · refine X0.arraylength hx (by rw [e0]; exact Ar496.1) (State.isArrayOf_alike hZ.alike Ar496.2.1) (g := (mkF m 7 #[rv d, jv j0, sv, jv j1, sv] [(.ref d)])) rfl rfl (hb hby dm2_7) _ ?_
    rw [ln496]; exact kt
  show OGets p e below _ (s₁.setTop (mkF m 8 #[rv d, jv j0, sv, jv j1, sv] [(.int (2 : Int32))]))
  refine OGets.step (fun _ => XS.iconst X0.here hx rfl (hb hby dm2_8)) ?_
  refine OGets.step (fun _ => XS.icmpNo X0.here hx rfl (hb hby dm2_9) rfl (teq (by decide : (2 : Int32) = (2 : Int32))).2) ?_
  refine OGets.step (fun _ => XS.aloadN X0.here hx rfl (hb hby dm2_12) rfl rfl) ?_
  refine OGets.step (fun _ => XS.iconst X0.here hx rfl (hb hby dm2_13)) ?_
  obtain ⟨cl498, Ar498, S498⟩ := V0.arr 0 rfl
  refine OGets.step (fun _ => X0.laload hx (j := (0 : Int32)) (v := (.long x0)) (by rw [e0]; exact Ar498.1) (State.isArrayOf_alike hZ.alike Ar498.2.1) Ar498.2.2 (own_inb S498 0 (by decide) (Nat.le_of_ble_eq_true rfl)) (own_get S498 0 (by decide) rfl) (g := (mkF m 14 #[rv d, jv j0, sv, jv j1, sv] [(.int (0 : Int32)), (.ref d)])) rfl rfl (hb hby dm2_14) _) ?_
  refine OGets.step (fun _ => XS.lloadN X0.here hx rfl (hb hby dm2_15) rfl) ?_
  show OGets p e below _ (s₁.setTop (mkF m 16 #[rv d, jv j0, sv, jv j1, sv] [(.long j0), (.long x0)]))
  refine OGets.step (fun _ => XS.lcmp X0.here hx rfl (hb hby dm2_16) rfl) ?_
  refine OGets.step (fun _ => XS.ifNo X0.here hx rfl (hb hby dm2_17) rfl ((if0 _ _).trans (teq ((lw_eq _ _).mpr (g0 : x0 = j0))).2)) ?_
  refine OGets.step (fun _ => XS.aloadN X0.here hx rfl (hb hby dm2_20) rfl rfl) ?_
  refine OGets.step (fun _ => XS.iconst X0.here hx rfl (hb hby dm2_21)) ?_
  obtain ⟨cl500, Ar500, S500⟩ := V0.arr 0 rfl
  refine OGets.step (fun _ => X0.laload hx (j := (1 : Int32)) (v := (.long x1)) (by rw [e0]; exact Ar500.1) (State.isArrayOf_alike hZ.alike Ar500.2.1) Ar500.2.2 (own_inb S500 1 (by decide) (Nat.le_of_ble_eq_true rfl)) (own_get S500 1 (by decide) rfl) (g := (mkF m 22 #[rv d, jv j0, sv, jv j1, sv] [(.int (1 : Int32)), (.ref d)])) rfl rfl (hb hby dm2_22) _) ?_
  refine OGets.step (fun _ => XS.lloadN X0.here hx rfl (hb hby dm2_23) rfl) ?_
  show OGets p e below _ (s₁.setTop (mkF m 24 #[rv d, jv j0, sv, jv j1, sv] [(.long j1), (.long x1)]))
  refine OGets.step (fun _ => XS.lcmp X0.here hx rfl (hb hby dm2_24) rfl) ?_
  refine OGets.step (fun _ => XS.ifNo X0.here hx rfl (hb hby dm2_25) rfl ((if0 _ _).trans (teq ((lw_eq _ _).mpr (g1 : x1 = j1))).2)) ?_
  refine OGets.step (fun _ => XS.iconst X0.here hx rfl (hb hby dm2_28)) ?_
  refine OGets.step (fun _ => XS.goto X0.here hx rfl (pc0 := 29) (pc' := 33) rfl (hb hby dm2_29) (by decide) (by decide)) ?_
  refine OGets.retN X0 hx hlk (t := .boolean) Bd.returns (by simp) (hb hby dm2_33) (Nat.le_of_ble_eq_true rfl) (Nat.le_of_ble_eq_true rfl) ?_
  exact ⟨congrArg (fun z => some (Value.int z)) (show _ = (1 : Int32) from by decide), rfl, e0⟩
theorem own_wd (x : Int32) : ((1 : Int32) + (((x.toUInt32 >>> ((1 : Int32) &&& 31).toUInt32).toInt32) &&& (1 : Int32))) = 1 ∨ ((1 : Int32) + (((x.toUInt32 >>> ((1 : Int32) &&& 31).toUInt32).toInt32) &&& (1 : Int32))) = 2 := by
  have s := c_mask ((x.toUInt32 >>> ((1 : Int32) &&& 31).toUInt32).toInt32) 1 1 (by decide) (by decide)
  generalize (((x.toUInt32 >>> ((1 : Int32) &&& 31).toUInt32).toInt32) &&& (1 : Int32)) = y at *
  have a := c_iadd 1 y
  have e1 : (1 : Int32).toInt = 1 := rfl
  have r1 := ((1 : Int32) + y).toInt_lt; have r2 := ((1 : Int32) + y).le_toInt
  simp only [← Int32.toInt_inj, e1, show (2 : Int32).toInt = 2 from rfl]
  omega
theorem own_pl (x : Int32) : (x &&& (1 : Int32)) = 0 ∨ (x &&& (1 : Int32)) = 1 := by
  have s := c_mask x 1 1 (by decide) (by decide)
  simp only [← Int32.toInt_inj, show (0 : Int32).toInt = 0 from rfl, show (1 : Int32).toInt = 1 from rfl]
  omega
theorem own_o4 (y : Int32) : inb 4 (((y &&& (32767 : Int32)) % (4 : Int32)) + (0 : Int32)) ∧ inb 4 ((y &&& (32767 : Int32)) % (4 : Int32)) := by
  have s := c_mask y 32767 15 (by decide) (by decide)
  have r := (c_irem (y &&& (32767 : Int32)) 4 4 rfl).1 (by omega)
  have a := c_iadd ((y &&& (32767 : Int32)) % (4 : Int32)) 0
  have e0 : (0 : Int32).toInt = 0 := rfl
  have r1 := (((y &&& (32767 : Int32)) % (4 : Int32)) + (0 : Int32)).toInt_lt; have r2 := (((y &&& (32767 : Int32)) % (4 : Int32)) + (0 : Int32)).le_toInt
  unfold inb
  omega
theorem own_o3 (y : Int32) : inb 4 (((y &&& (32767 : Int32)) % (3 : Int32)) + (0 : Int32)) ∧ inb 4 (((y &&& (32767 : Int32)) % (3 : Int32)) + (1 : Int32)) := by
  have s := c_mask y 32767 15 (by decide) (by decide)
  have r := (c_irem (y &&& (32767 : Int32)) 3 3 rfl).1 (by omega)
  have a := c_iadd ((y &&& (32767 : Int32)) % (3 : Int32)) 0
  have b := c_iadd ((y &&& (32767 : Int32)) % (3 : Int32)) 1
  have e0 : (0 : Int32).toInt = 0 := rfl
  have e1 : (1 : Int32).toInt = 1 := rfl
  have r1 := (((y &&& (32767 : Int32)) % (3 : Int32)) + (0 : Int32)).toInt_lt; have r2 := (((y &&& (32767 : Int32)) % (3 : Int32)) + (0 : Int32)).le_toInt
  have r3 := (((y &&& (32767 : Int32)) % (3 : Int32)) + (1 : Int32)).toInt_lt; have r4 := (((y &&& (32767 : Int32)) % (3 : Int32)) + (1 : Int32)).le_toInt
  unfold inb
  omega
theorem own_in0 {x : Int32} (h : inb 4 (x + (0 : Int32))) : inb 4 x := by rw [Int32.add_zero] at h; exact h
theorem own_or3 (L : List Int64) (x y : Int32) : ((0 : Int64) ||| gj L (x + (0 : Int32))) ||| gj L (y + (0 : Int32)) = gj L x ||| gj L y := by rw [Int32.add_zero, Int32.add_zero, Int64.zero_or]
theorem own_or4 (L : List Int64) (x y : Int32) : ((0 : Int64) ||| gj L (x + (1 : Int32))) ||| gj L (y + (1 : Int32)) = gj L (x + (1 : Int32)) ||| gj L (y + (1 : Int32)) := by rw [Int64.zero_or]
theorem pd_13 : parseMethodDescriptor "(I)V" = some ⟨[.int], none⟩ := by decide +kernel
theorem pd_14 : parseMethodDescriptor "(I[JI)V" = some ⟨[.int, (.array .long), .int], none⟩ := by decide +kernel
theorem pd_15 : parseMethodDescriptor "(I)Ljava/util/BitSet;" = some ⟨[.int], some (.object "java/util/BitSet")⟩ := by decide +kernel
theorem pd_16 : parseMethodDescriptor "()[J" = some ⟨[], some (.array .long)⟩ := by decide +kernel
theorem pd_17 : parseMethodDescriptor "([JJJ)Z" = some ⟨[(.array .long), .long, .long], some .boolean⟩ := by decide +kernel
theorem ef_law (m : MethodId) (x0 : Int64) (x1 : Int64) (x2 : Int64) (x3 : Int64) (x4 : Int32) : entryFrame m #[(.long x0), (.long x1), (.long x2), (.long x3), (.int x4)] maxLocals = mkF m 0 #[.val (.long x0), .second, .val (.long x1), .second, .val (.long x2), .second, .val (.long x3), .second, .val (.int x4), .unset, .unset, .unset, .unset, .unset, .unset, .unset, .unset, .unset, .unset, .unset] [] := by first | (simp [entryFrame, mkF, argsToLocals, Value.category, maxLocals]; done) | rfl
def Q_law (Z : State) (p0 : Int64) (p1 : Int64) (p2 : Int64) (p3 : Int64) (p4 : Int32) (h0 : Heap) (n0 : Nat) (v : Option Value) (h : Heap) (L : List Loc) : Prop := v = some (.int 1) ∧ Fr n0 L
set_option maxRecDepth 65536 in
set_option maxHeartbeats 40000000 in
theorem rm_law (l : Launch) (Z : State) (a0 : Array Value) (hw : ∀ d ∈ tables_1, d.before a0 Z = true) (ws : List Jvm.Cond) (p0 : Int64) (p1 : Int64) (p2 : Int64) (p3 : Int64) (p4 : Int32) (h0 : Heap) (n0 : Nat) (Z0 : n0 ≤ h0.size) (SA : Sta Z Z.heap "java/util/BitSet" "$assertionsDisabled" "Z" (.int (1 : Int32))) (V0 : OView Z n0 h0 ([])) (O0 : Old Z n0 h0) :
    MetFree l x (head1 (Jvm.Cond.code x code maxLocals ret :: ws) room_1) (fun a_ U => a_ = #[(.long p0), (.long p1), (.long p2), (.long p3), (.int p4)] ∧ Z.Warmed39 U.vm ∧ U.heap = h0) (fun _ _ _ _ _ => True) (fun _ U o U' => ∃ v L, o = .returned v ∧ Q_law Z p0 p1 p2 p3 p4 h0 n0 v U'.heap L ∧ FrameEnd U o U' L 48 448) := by
  refine MetFree.of_bodySF (plainFor_of_name pn_12) hisR ?_
  intro p e s m args below meth c s₁ Bd hml0 hP hK
  obtain ⟨rfl, hZ, hh⟩ := hP
  have hx := Bd.exec
  have hby := Bd.bytes
  have hlk : meth.locks = false := Bd.notSynchronized
  have hml : c.maxLocals = 20 := hml0
  have hown : s.vm.findClass "com/example/inya/inya/SearchPathGatherPinLaw" = some m.cls := findClass_of_methodNamed Bd.named
  have hnm := (name_of_methodNamed Bd.named Bd.method).1
  have X0 : Stand p l e room_1 s m #[(.long p0), (.long p1), (.long p2), (.long p3), (.int p4)] below meth c s₁ [] 0 0 := Stand.of_body Bd
  have e0 : s₁.heap = h0 := by rw [← hh, Bd.state]; rfl
  have N0 := Fr.nil n0
  show OGets p e below (OLeaves s (Q_law Z p0 p1 p2 p3 p4 h0 n0 ) 48 448) _
  refine OGets.enter (ef_law m p0 p1 p2 p3 p4) ?_
  show OGets p e below _ (s₁.setTop (mkF m 0 #[jv p0, sv, jv p1, sv, jv p2, sv, jv p3, sv, iv p4, uv, uv, uv, uv, uv, uv, uv, uv, uv, uv, uv] []))
  refine OGets.step (fun _ => XS.iconst X0.here hx rfl (hb hby at_0)) ?_
  refine OGets.step (fun _ => XS.iload X0.here hx rfl (hb hby at_1) rfl) ?_
  refine OGets.step (fun _ => XS.iconst X0.here hx rfl (hb hby at_3)) ?_
  refine OGets.step (fun _ => XS.iushr X0.here hx rfl (hb hby at_4) rfl) ?_
  refine OGets.step (fun _ => XS.iconst X0.here hx rfl (hb hby at_5)) ?_
  refine OGets.step (fun _ => XS.iand X0.here hx rfl (hb hby at_6) rfl) ?_
  show OGets p e below _ (s₁.setTop (mkF m 7 #[jv p0, sv, jv p1, sv, jv p2, sv, jv p3, sv, iv p4, uv, uv, uv, uv, uv, uv, uv, uv, uv, uv, uv] [(.int (((p4.toUInt32 >>> ((1 : Int32) &&& 31).toUInt32).toInt32) &&& (1 : Int32))), (.int (1 : Int32))]))
  refine OGets.step (fun _ => XS.iadd X0.here hx rfl (hb hby at_7) rfl) ?_
  show OGets p e below _ (s₁.setTop (mkF m 8 #[jv p0, sv, jv p1, sv, jv p2, sv, jv p3, sv, iv p4, uv, uv, uv, uv, uv, uv, uv, uv, uv, uv, uv] [(.int ((1 : Int32) + (((p4.toUInt32 >>> ((1 : Int32) &&& 31).toUInt32).toInt32) &&& (1 : Int32))))]))
  rcases own_wd p4 with hwd | hwd
  · rw [hwd]
    show OGets p e below _ (s₁.setTop (mkF m 8 #[jv p0, sv, jv p1, sv, jv p2, sv, jv p3, sv, iv p4, uv, uv, uv, uv, uv, uv, uv, uv, uv, uv, uv] [(.int (1 : Int32))]))
    refine OGets.step (fun _ => XS.istore X0.here hx rfl (hb hby at_8) rfl (l' := #[jv p0, sv, jv p1, sv, jv p2, sv, jv p3, sv, iv p4, iv (1 : Int32), uv, uv, uv, uv, uv, uv, uv, uv, uv, uv]) rfl) ?_
    refine OGets.step (fun _ => XS.iload X0.here hx rfl (hb hby at_10) rfl) ?_
    refine OGets.step (fun _ => XS.iconst X0.here hx rfl (hb hby at_12)) ?_
    refine OGets.step (fun _ => XS.iand X0.here hx rfl (hb hby at_13) rfl) ?_
    show OGets p e below _ (s₁.setTop (mkF m 14 #[jv p0, sv, jv p1, sv, jv p2, sv, jv p3, sv, iv p4, iv (1 : Int32), uv, uv, uv, uv, uv, uv, uv, uv, uv, uv] [(.int (p4 &&& (1 : Int32)))]))
    rcases own_pl p4 with hpl | hpl
    · rw [hpl]
      show OGets p e below _ (s₁.setTop (mkF m 14 #[jv p0, sv, jv p1, sv, jv p2, sv, jv p3, sv, iv p4, iv (1 : Int32), uv, uv, uv, uv, uv, uv, uv, uv, uv, uv] [(.int (0 : Int32))]))
      refine OGets.step (fun _ => XS.istore X0.here hx rfl (hb hby at_14) rfl (l' := #[jv p0, sv, jv p1, sv, jv p2, sv, jv p3, sv, iv p4, iv (1 : Int32), iv (0 : Int32), uv, uv, uv, uv, uv, uv, uv, uv, uv]) rfl) ?_
      refine OGets.step (fun _ => XS.iload X0.here hx rfl (hb hby at_16) rfl) ?_
      refine OGets.step (fun _ => XS.iconst X0.here hx rfl (hb hby at_18)) ?_
      refine OGets.step (fun _ => XS.iushr X0.here hx rfl (hb hby at_19) rfl) ?_
      refine OGets.step (fun _ => XS.sipush X0.here hx rfl (hb hby at_20)) ?_
      refine OGets.step (fun _ => XS.iand X0.here hx rfl (hb hby at_23) rfl) ?_
      show OGets p e below _ (s₁.setTop (mkF m 24 #[jv p0, sv, jv p1, sv, jv p2, sv, jv p3, sv, iv p4, iv (1 : Int32), iv (0 : Int32), uv, uv, uv, uv, uv, uv, uv, uv, uv] [(.int (((p4.toUInt32 >>> ((2 : Int32) &&& 31).toUInt32).toInt32) &&& (32767 : Int32)))]))
      refine OGets.step (fun _ => XS.iconst X0.here hx rfl (hb hby at_24)) ?_
      refine OGets.step (fun _ => XS.iload X0.here hx rfl (hb hby at_25) rfl) ?_
      refine OGets.step (fun _ => XS.isub X0.here hx rfl (hb hby at_27) rfl) ?_
      show OGets p e below _ (s₁.setTop (mkF m 28 #[jv p0, sv, jv p1, sv, jv p2, sv, jv p3, sv, iv p4, iv (1 : Int32), iv (0 : Int32), uv, uv, uv, uv, uv, uv, uv, uv, uv] [(.int (4 : Int32)), (.int (((p4.toUInt32 >>> ((2 : Int32) &&& 31).toUInt32).toInt32) &&& (32767 : Int32)))]))
      refine OGets.step (fun _ => iremM (g := (mkF m 28 #[jv p0, sv, jv p1, sv, jv p2, sv, jv p3, sv, iv p4, iv (1 : Int32), iv (0 : Int32), uv, uv, uv, uv, uv, uv, uv, uv, uv] [(.int (4 : Int32)), (.int (((p4.toUInt32 >>> ((2 : Int32) &&& 31).toUInt32).toInt32) &&& (32767 : Int32)))])) X0 hx rfl (hb hby at_28) rfl (by decide)) ?_
      show OGets p e below _ (s₁.setTop (mkF m 29 #[jv p0, sv, jv p1, sv, jv p2, sv, jv p3, sv, iv p4, iv (1 : Int32), iv (0 : Int32), uv, uv, uv, uv, uv, uv, uv, uv, uv] [(.int ((((p4.toUInt32 >>> ((2 : Int32) &&& 31).toUInt32).toInt32) &&& (32767 : Int32)) % (4 : Int32)))]))
      have q_fA := own_o4 ((p4.toUInt32 >>> ((2 : Int32) &&& 31).toUInt32).toInt32)
      generalize ((((p4.toUInt32 >>> ((2 : Int32) &&& 31).toUInt32).toInt32) &&& (32767 : Int32)) % (4 : Int32)) = fA at q_fA ⊢
      show OGets p e below _ (s₁.setTop (mkF m 29 #[jv p0, sv, jv p1, sv, jv p2, sv, jv p3, sv, iv p4, iv (1 : Int32), iv (0 : Int32), uv, uv, uv, uv, uv, uv, uv, uv, uv] [(.int fA)]))
      refine OGets.step (fun _ => XS.istore X0.here hx rfl (hb hby at_29) rfl (l' := #[jv p0, sv, jv p1, sv, jv p2, sv, jv p3, sv, iv p4, iv (1 : Int32), iv (0 : Int32), iv fA, uv, uv, uv, uv, uv, uv, uv, uv]) rfl) ?_
      refine OGets.step (fun _ => XS.iload X0.here hx rfl (hb hby at_31) rfl) ?_
      refine OGets.step (fun _ => XS.bipush X0.here hx rfl (hb hby at_33)) ?_
      refine OGets.step (fun _ => XS.iushr X0.here hx rfl (hb hby at_35) rfl) ?_
      refine OGets.step (fun _ => XS.sipush X0.here hx rfl (hb hby at_36)) ?_
      refine OGets.step (fun _ => XS.iand X0.here hx rfl (hb hby at_39) rfl) ?_
      show OGets p e below _ (s₁.setTop (mkF m 40 #[jv p0, sv, jv p1, sv, jv p2, sv, jv p3, sv, iv p4, iv (1 : Int32), iv (0 : Int32), iv fA, uv, uv, uv, uv, uv, uv, uv, uv] [(.int (((p4.toUInt32 >>> ((17 : Int32) &&& 31).toUInt32).toInt32) &&& (32767 : Int32)))]))
      refine OGets.step (fun _ => XS.iconst X0.here hx rfl (hb hby at_40)) ?_
      refine OGets.step (fun _ => XS.iload X0.here hx rfl (hb hby at_41) rfl) ?_
      refine OGets.step (fun _ => XS.isub X0.here hx rfl (hb hby at_43) rfl) ?_
      show OGets p e below _ (s₁.setTop (mkF m 44 #[jv p0, sv, jv p1, sv, jv p2, sv, jv p3, sv, iv p4, iv (1 : Int32), iv (0 : Int32), iv fA, uv, uv, uv, uv, uv, uv, uv, uv] [(.int (4 : Int32)), (.int (((p4.toUInt32 >>> ((17 : Int32) &&& 31).toUInt32).toInt32) &&& (32767 : Int32)))]))
      refine OGets.step (fun _ => iremM (g := (mkF m 44 #[jv p0, sv, jv p1, sv, jv p2, sv, jv p3, sv, iv p4, iv (1 : Int32), iv (0 : Int32), iv fA, uv, uv, uv, uv, uv, uv, uv, uv] [(.int (4 : Int32)), (.int (((p4.toUInt32 >>> ((17 : Int32) &&& 31).toUInt32).toInt32) &&& (32767 : Int32)))])) X0 hx rfl (hb hby at_44) rfl (by decide)) ?_
      show OGets p e below _ (s₁.setTop (mkF m 45 #[jv p0, sv, jv p1, sv, jv p2, sv, jv p3, sv, iv p4, iv (1 : Int32), iv (0 : Int32), iv fA, uv, uv, uv, uv, uv, uv, uv, uv] [(.int ((((p4.toUInt32 >>> ((17 : Int32) &&& 31).toUInt32).toInt32) &&& (32767 : Int32)) % (4 : Int32)))]))
      have q_fC := own_o4 ((p4.toUInt32 >>> ((17 : Int32) &&& 31).toUInt32).toInt32)
      generalize ((((p4.toUInt32 >>> ((17 : Int32) &&& 31).toUInt32).toInt32) &&& (32767 : Int32)) % (4 : Int32)) = fC at q_fC ⊢
      show OGets p e below _ (s₁.setTop (mkF m 45 #[jv p0, sv, jv p1, sv, jv p2, sv, jv p3, sv, iv p4, iv (1 : Int32), iv (0 : Int32), iv fA, uv, uv, uv, uv, uv, uv, uv, uv] [(.int fC)]))
      refine OGets.step (fun _ => XS.istore X0.here hx rfl (hb hby at_45) rfl (l' := #[jv p0, sv, jv p1, sv, jv p2, sv, jv p3, sv, iv p4, iv (1 : Int32), iv (0 : Int32), iv fA, iv fC, uv, uv, uv, uv, uv, uv, uv]) rfl) ?_
      refine OGets.step (fun _ => XS.iconst X0.here hx rfl (hb hby at_47)) ?_
      obtain ⟨T502, h502, k502, X502, e502, E502, A502, Ex502, st502⟩ := newPE X0 hx hZ (ow hw 0 rfl) e0 (g := (mkF m 48 #[jv p0, sv, jv p1, sv, jv p2, sv, jv p3, sv, iv p4, iv (1 : Int32), iv (0 : Int32), iv fA, iv fC, uv, uv, uv, uv, uv, uv, uv] [(.int (4 : Int32))])) rfl (hb hby at_48) rfl (by decide) (cap := 4) (by decide) (by decide) (by decide) (by decide) (ad := "[J") (by decide +kernel)
      have V502' := V0.newArr Z0 E502 A502 4 rfl (fun _ => Ex502)
      have Z502 : n0 ≤ h502.size := Nat.le_trans Z0 E502.1
      obtain ⟨b502, g502⟩ : ∃ z, z = h0.size := ⟨_, rfl⟩
      rw [← g502] at V502' st502
      have V502 : OView Z n0 h502 (oB b502 [(0 : Int64), (0 : Int64), (0 : Int64), (0 : Int64)] :: []) := V502'
      have O502 := O0.ext E502
      refine OGets.step st502 ?_
      refine OGets.step (fun _ => XS.dup X502.here hx rfl (hb hby at_50) rfl rfl) ?_
      refine OGets.step (fun _ => XS.iconst X502.here hx rfl (hb hby at_51)) ?_
      refine OGets.step (fun _ => XS.lloadN X502.here hx rfl (hb hby at_52) rfl) ?_
      obtain ⟨cl503, Ar503, S503⟩ := V502.arr 0 rfl
      obtain ⟨T503, h503, X503, e503, W503', st503⟩ := stJ X502 hx hZ e502 Ar503 (j := (0 : Int32)) (own_inb S503 0 (by decide) (Nat.le_of_ble_eq_true rfl)) (g := (mkF m 53 #[jv p0, sv, jv p1, sv, jv p2, sv, jv p3, sv, iv p4, iv (1 : Int32), iv (0 : Int32), iv fA, iv fC, uv, uv, uv, uv, uv, uv, uv] [(.long p0), (.int (0 : Int32)), (.ref b502), (.ref b502)])) rfl rfl (hb hby at_53)
      have W503 := own_wr (vs := []) 0 (by decide) W503'
      have V503 : OView Z n0 h503 (oB b502 [p0, (0 : Int64), (0 : Int64), (0 : Int64)] :: []) := V502.putA 0 rfl W503
      have N503 := Fr.snoc X503 N0 (V502.old 0 rfl)
      have Z503 : n0 ≤ h503.size := by rw [W503.size]; exact Z502
      have O503 := O502.wr W503 (V502.old 0 rfl)
      refine OGets.step st503 ?_
      refine OGets.step (fun _ => XS.dup X503.here hx rfl (hb hby at_54) rfl rfl) ?_
      refine OGets.step (fun _ => XS.iconst X503.here hx rfl (hb hby at_55)) ?_
      refine OGets.step (fun _ => XS.lloadN X503.here hx rfl (hb hby at_56) rfl) ?_
      obtain ⟨cl504, Ar504, S504⟩ := V503.arr 0 rfl
      obtain ⟨T504, h504, X504, e504, W504', st504⟩ := stJ X503 hx hZ e503 Ar504 (j := (1 : Int32)) (own_inb S504 1 (by decide) (Nat.le_of_ble_eq_true rfl)) (g := (mkF m 57 #[jv p0, sv, jv p1, sv, jv p2, sv, jv p3, sv, iv p4, iv (1 : Int32), iv (0 : Int32), iv fA, iv fC, uv, uv, uv, uv, uv, uv, uv] [(.long p1), (.int (1 : Int32)), (.ref b502), (.ref b502)])) rfl rfl (hb hby at_57)
      have W504 := own_wr (vs := []) 1 (by decide) W504'
      have V504 : OView Z n0 h504 (oB b502 [p0, p1, (0 : Int64), (0 : Int64)] :: []) := V503.putA 0 rfl W504
      have N504 := Fr.snoc X504 N503 (V503.old 0 rfl)
      have Z504 : n0 ≤ h504.size := by rw [W504.size]; exact Z503
      have O504 := O503.wr W504 (V503.old 0 rfl)
      refine OGets.step st504 ?_
      refine OGets.step (fun _ => XS.dup X504.here hx rfl (hb hby at_58) rfl rfl) ?_
      refine OGets.step (fun _ => XS.iconst X504.here hx rfl (hb hby at_59)) ?_
      refine OGets.step (fun _ => XS.lload X504.here hx rfl (hb hby at_60) rfl) ?_
      obtain ⟨cl505, Ar505, S505⟩ := V504.arr 0 rfl
      obtain ⟨T505, h505, X505, e505, W505', st505⟩ := stJ X504 hx hZ e504 Ar505 (j := (2 : Int32)) (own_inb S505 2 (by decide) (Nat.le_of_ble_eq_true rfl)) (g := (mkF m 62 #[jv p0, sv, jv p1, sv, jv p2, sv, jv p3, sv, iv p4, iv (1 : Int32), iv (0 : Int32), iv fA, iv fC, uv, uv, uv, uv, uv, uv, uv] [(.long p2), (.int (2 : Int32)), (.ref b502), (.ref b502)])) rfl rfl (hb hby at_62)
      have W505 := own_wr (vs := []) 2 (by decide) W505'
      have V505 : OView Z n0 h505 (oB b502 [p0, p1, p2, (0 : Int64)] :: []) := V504.putA 0 rfl W505
      have N505 := Fr.snoc X505 N504 (V504.old 0 rfl)
      have Z505 : n0 ≤ h505.size := by rw [W505.size]; exact Z504
      have O505 := O504.wr W505 (V504.old 0 rfl)
      refine OGets.step st505 ?_
      refine OGets.step (fun _ => XS.dup X505.here hx rfl (hb hby at_63) rfl rfl) ?_
      refine OGets.step (fun _ => XS.iconst X505.here hx rfl (hb hby at_64)) ?_
      refine OGets.step (fun _ => XS.lload X505.here hx rfl (hb hby at_65) rfl) ?_
      obtain ⟨cl506, Ar506, S506⟩ := V505.arr 0 rfl
      obtain ⟨T506, h506, X506, e506, W506', st506⟩ := stJ X505 hx hZ e505 Ar506 (j := (3 : Int32)) (own_inb S506 3 (by decide) (Nat.le_of_ble_eq_true rfl)) (g := (mkF m 67 #[jv p0, sv, jv p1, sv, jv p2, sv, jv p3, sv, iv p4, iv (1 : Int32), iv (0 : Int32), iv fA, iv fC, uv, uv, uv, uv, uv, uv, uv] [(.long p3), (.int (3 : Int32)), (.ref b502), (.ref b502)])) rfl rfl (hb hby at_67)
      have W506 := own_wr (vs := []) 3 (by decide) W506'
      have V506 : OView Z n0 h506 (oB b502 [p0, p1, p2, p3] :: []) := V505.putA 0 rfl W506
      have N506 := Fr.snoc X506 N505 (V505.old 0 rfl)
      have Z506 : n0 ≤ h506.size := by rw [W506.size]; exact Z505
      have O506 := O505.wr W506 (V505.old 0 rfl)
      refine OGets.step st506 ?_
      show OGets p e below _ (T506.setTop (mkF m 68 #[jv p0, sv, jv p1, sv, jv p2, sv, jv p3, sv, iv p4, iv (1 : Int32), iv (0 : Int32), iv fA, iv fC, uv, uv, uv, uv, uv, uv, uv] [(.ref b502)]))
      refine OGets.step (fun _ => XS.astore X506.here hx rfl (hb hby at_68) rfl rfl (l' := #[jv p0, sv, jv p1, sv, jv p2, sv, jv p3, sv, iv p4, iv (1 : Int32), iv (0 : Int32), iv fA, iv fC, rv b502, uv, uv, uv, uv, uv, uv]) rfl) ?_
      obtain ⟨T507, h507, X507, e507, E507, A507, D507, -, st507⟩ := newO X506 hx hZ hown (ow hw 1 rfl) (ow hw 2 rfl) (ow hw 3 rfl) e506 (g := (mkF m 70 #[jv p0, sv, jv p1, sv, jv p2, sv, jv p3, sv, iv p4, iv (1 : Int32), iv (0 : Int32), iv fA, iv fC, rv b502, uv, uv, uv, uv, uv, uv] [])) rfl (hb hby at_70) (by decide) (by decide)
      have V507' := V506.newObj (ns := ns_SearchPath) (vs := [.null, .null, .null, .null, .null, (.int (0 : Int32)), .null, .null, (.int (0 : Int32))]) Z506 E507 A507 D507 (lay_ns_SearchPath hw) (by decide) (by decide)
      have Z507 : n0 ≤ h507.size := Nat.le_trans Z506 E507.1
      obtain ⟨b507, g507⟩ : ∃ z, z = h506.size := ⟨_, rfl⟩
      rw [← g507] at V507' st507
      have V507 : OView Z n0 h507 (oP b507 [.null, .null, .null, .null, .null, (.int (0 : Int32)), .null, .null, (.int (0 : Int32))] :: oB b502 [p0, p1, p2, p3] :: []) := V507'
      have O507 := O506.ext E507
      refine OGets.step st507 ?_
      refine OGets.step (fun _ => XS.dup X507.here hx rfl (hb hby at_73) rfl rfl) ?_
      refine OGets.step (fun _ => XS.iload X507.here hx rfl (hb hby at_74) rfl) ?_
      obtain ⟨_, _, ⟨T508, L508, k508, n508⟩, -, X508, ⟨Lc508, hQ508, l508, y508, z508⟩, st508⟩ := X507.specialBack hx (y := (⟨"com/example/inya/inya/SearchPath", "<init>", "(I)V"⟩ : MethodName)) rfl hown (mvT hZ (ow hw 4 rfl)) (mvT hZ (ow hw 5 rfl)) (mvT hZ (ow hw 6 rfl)) (by decide) (backOf (W := 1) (rm_ini1 l Z a0 hw [] b507 h507 n0 _ Z507  V507 O507) hZ (ow hw 6 rfl) (ow hw 3 rfl) (by decide) (by decide)) (g := (mkF m 76 #[jv p0, sv, jv p1, sv, jv p2, sv, jv p3, sv, iv p4, iv (1 : Int32), iv (0 : Int32), iv fA, iv fC, rv b502, uv, uv, uv, uv, uv, uv] [(.int (1 : Int32)), (.ref b507), (.ref b507)])) rfl (by rw [hml]; rfl) (Steps.refl _) (a := b507) (argsL := [(.int (1 : Int32))]) (rest := [(.ref b507)]) (lenOf pd_13 rfl) rfl (by show 2 * 0 + _ ≤ _; exact Nat.le_of_eq rfl) (hb hby at_76) (fun _ _ => ⟨rfl, e507, Nat.le_of_ble_eq_true rfl, Nat.le_of_ble_eq_true rfl⟩)
      dsimp only [Pt.U, Pt.locs, Pt.cells, Pt.slots] at X508 l508 y508 z508 st508 hQ508
      rw [l508, y508, z508] at X508
      obtain ⟨rfl, N508q, ap508, as508, aq508, ax508, ak508, ag508, ab508, V508, O508q⟩ := hQ508
      have N508 := Fr.app N506 N508q
      have V508v : OView Z n0 T508.heap (oP b507 [(.ref ap508), (.ref as508), (.ref aq508), (.ref ax508), (.ref ak508), (.int (1 : Int32)), (.ref ag508), (.ref ab508), (.int (0 : Int32))] :: oA ap508 (List.replicate 16 (0 : Int32)) :: oA as508 (List.replicate 16 (0 : Int32)) :: oN aq508 :: oA ax508 (List.replicate 16 (0 : Int32)) :: oA ak508 (List.replicate 16 (0 : Int32)) :: oB ag508 (List.replicate 16 (0 : Int64)) :: oB ab508 (List.replicate 16 (0 : Int64)) :: oB b502 [p0, p1, p2, p3] :: []) := V508
      have Z508 : n0 ≤ T508.heap.size := V508v.big 0 rfl
      refine OGets.after st508 ?_
      refine OGets.step (fun _ => XS.astore X508.here hx rfl (hb hby at_79) rfl rfl (l' := #[jv p0, sv, jv p1, sv, jv p2, sv, jv p3, sv, iv p4, iv (1 : Int32), iv (0 : Int32), iv fA, iv fC, rv b502, rv b507, uv, uv, uv, uv, uv]) rfl) ?_
      refine OGets.step (fun _ => XS.aload X508.here hx rfl (hb hby at_81) rfl rfl) ?_
      refine OGets.step (fun _ => XS.bipush X508.here hx rfl (hb hby at_83)) ?_
      obtain ⟨cq509, kq509, q509a, q509b, q509c⟩ := isOf hZ rfl (V508v.exa 0 rfl)
      obtain ⟨_, _, ⟨T509, L509, k509, n509⟩, -, X509, ⟨Lc509, hQ509, l509, y509, z509⟩, st509⟩ := X508.virtualBack hx (y := (⟨"com/example/inya/inya/SearchPath", "add", "(I)V"⟩ : MethodName)) (z := (⟨"com/example/inya/inya/SearchPath", "add", "(I)V"⟩ : MethodName)) hown (mvT hZ (ow hw 29 rfl)) (mvT hZ (ow hw 30 rfl)) (notFace_of_selects (args := #[]) (mvT hZ (ow hw 32 rfl))) (mvT hZ (ow hw 32 rfl)) (mvT hZ (ow hw 31 rfl)) (by decide) (backOf (W := 0) (rm_add10 l Z a0 hw [] b507 ap508 as508 aq508 ax508 ak508 ag508 ab508 (7 : Int32) (List.replicate 16 (0 : Int32)) (List.replicate 16 (0 : Int32)) (List.replicate 16 (0 : Int32)) (List.replicate 16 (0 : Int32)) (List.replicate 16 (0 : Int64)) (List.replicate 16 (0 : Int64)) T508.heap n0 _ Z508 (by simp only [si_len, sj_len, List.length_replicate]) (by simp only [si_len, sj_len, List.length_replicate]) (by simp only [si_len, sj_len, List.length_replicate]) (by simp only [si_len, sj_len, List.length_replicate]) (by simp only [si_len, sj_len, List.length_replicate]) (by simp only [si_len, sj_len, List.length_replicate]) V508v O508q) hZ (ow hw 33 rfl) (ow hw 3 rfl) (by decide) (by decide)) q509a q509c (g := (mkF m 85 #[jv p0, sv, jv p1, sv, jv p2, sv, jv p3, sv, iv p4, iv (1 : Int32), iv (0 : Int32), iv fA, iv fC, rv b502, rv b507, uv, uv, uv, uv, uv] [(.int (7 : Int32)), (.ref b507)])) rfl (by rw [hml]; rfl) (Steps.refl _) (argsL := [(.int (7 : Int32))]) (rest := []) (lenOf pd_13 rfl) rfl (by show 2 * 0 + _ ≤ _; exact Nat.le_of_eq rfl) (hb hby at_85) (fun _ _ => ⟨rfl, rfl, Nat.le_of_ble_eq_true rfl, Nat.le_of_ble_eq_true rfl⟩)
      dsimp only [Pt.U, Pt.locs, Pt.cells, Pt.slots] at X509 l509 y509 z509 st509 hQ509
      rw [l509, y509, z509] at X509
      obtain ⟨rfl, N509q, V509, O509q⟩ := hQ509
      have N509 := Fr.app N508 N509q
      have V509v : OView Z n0 T509.heap (oP b507 [(.ref ap508), (.ref as508), (.ref aq508), (.ref ax508), (.ref ak508), (.int (1 : Int32)), (.ref ag508), (.ref ab508), (.int (1 : Int32))] :: oA ap508 (si (List.replicate 16 (0 : Int32)) (0 : Int32) (7 : Int32)) :: oA as508 (si (List.replicate 16 (0 : Int32)) (0 : Int32) (0 : Int32)) :: oN aq508 :: oA ax508 (si (List.replicate 16 (0 : Int32)) (0 : Int32) (0 : Int32)) :: oA ak508 (si (List.replicate 16 (0 : Int32)) (0 : Int32) (-1 : Int32)) :: oB ag508 (sj (List.replicate 16 (0 : Int64)) (0 : Int32) (0 : Int64)) :: oB ab508 (sj (List.replicate 16 (0 : Int64)) (0 : Int32) (0 : Int64)) :: oB b502 [p0, p1, p2, p3] :: []) := V509
      have Z509 : n0 ≤ T509.heap.size := V509v.big 0 rfl
      refine OGets.after st509 ?_
      refine OGets.step (fun _ => XS.aload X509.here hx rfl (hb hby at_88) rfl rfl) ?_
      refine OGets.step (fun _ => XS.bipush X509.here hx rfl (hb hby at_90)) ?_
      obtain ⟨cq510, kq510, q510a, q510b, q510c⟩ := isOf hZ rfl (V509v.exa 0 rfl)
      obtain ⟨_, _, ⟨T510, L510, k510, n510⟩, -, X510, ⟨Lc510, hQ510, l510, y510, z510⟩, st510⟩ := X509.virtualBack hx (y := (⟨"com/example/inya/inya/SearchPath", "add", "(I)V"⟩ : MethodName)) (z := (⟨"com/example/inya/inya/SearchPath", "add", "(I)V"⟩ : MethodName)) hown (mvT hZ (ow hw 29 rfl)) (mvT hZ (ow hw 30 rfl)) (notFace_of_selects (args := #[]) (mvT hZ (ow hw 32 rfl))) (mvT hZ (ow hw 32 rfl)) (mvT hZ (ow hw 31 rfl)) (by decide) (backOf (W := 0) (rm_add11 l Z a0 hw [] b507 ap508 as508 aq508 ax508 ak508 ag508 ab508 (9 : Int32) (si (List.replicate 16 (0 : Int32)) (0 : Int32) (7 : Int32)) (si (List.replicate 16 (0 : Int32)) (0 : Int32) (0 : Int32)) (si (List.replicate 16 (0 : Int32)) (0 : Int32) (0 : Int32)) (si (List.replicate 16 (0 : Int32)) (0 : Int32) (-1 : Int32)) (sj (List.replicate 16 (0 : Int64)) (0 : Int32) (0 : Int64)) (sj (List.replicate 16 (0 : Int64)) (0 : Int32) (0 : Int64)) T509.heap n0 _ Z509 (by simp only [si_len, sj_len, List.length_replicate]) (by simp only [si_len, sj_len, List.length_replicate]) (by simp only [si_len, sj_len, List.length_replicate]) (by simp only [si_len, sj_len, List.length_replicate]) (by simp only [si_len, sj_len, List.length_replicate]) (by simp only [si_len, sj_len, List.length_replicate]) V509v O509q) hZ (ow hw 33 rfl) (ow hw 3 rfl) (by decide) (by decide)) q510a q510c (g := (mkF m 92 #[jv p0, sv, jv p1, sv, jv p2, sv, jv p3, sv, iv p4, iv (1 : Int32), iv (0 : Int32), iv fA, iv fC, rv b502, rv b507, uv, uv, uv, uv, uv] [(.int (9 : Int32)), (.ref b507)])) rfl (by rw [hml]; rfl) (Steps.refl _) (argsL := [(.int (9 : Int32))]) (rest := []) (lenOf pd_13 rfl) rfl (by show 2 * 0 + _ ≤ _; exact Nat.le_of_eq rfl) (hb hby at_92) (fun _ _ => ⟨rfl, rfl, Nat.le_of_ble_eq_true rfl, Nat.le_of_ble_eq_true rfl⟩)
      dsimp only [Pt.U, Pt.locs, Pt.cells, Pt.slots] at X510 l510 y510 z510 st510 hQ510
      rw [l510, y510, z510] at X510
      obtain ⟨rfl, N510q, V510, O510q⟩ := hQ510
      have N510 := Fr.app N509 N510q
      have V510v : OView Z n0 T510.heap (oP b507 [(.ref ap508), (.ref as508), (.ref aq508), (.ref ax508), (.ref ak508), (.int (1 : Int32)), (.ref ag508), (.ref ab508), (.int (2 : Int32))] :: oA ap508 (si (si (List.replicate 16 (0 : Int32)) (0 : Int32) (7 : Int32)) (1 : Int32) (9 : Int32)) :: oA as508 (si (si (List.replicate 16 (0 : Int32)) (0 : Int32) (0 : Int32)) (1 : Int32) (0 : Int32)) :: oN aq508 :: oA ax508 (si (si (List.replicate 16 (0 : Int32)) (0 : Int32) (0 : Int32)) (1 : Int32) (0 : Int32)) :: oA ak508 (si (si (List.replicate 16 (0 : Int32)) (0 : Int32) (-1 : Int32)) (1 : Int32) (-1 : Int32)) :: oB ag508 (sj (sj (List.replicate 16 (0 : Int64)) (0 : Int32) (0 : Int64)) (1 : Int32) (0 : Int64)) :: oB ab508 (sj (sj (List.replicate 16 (0 : Int64)) (0 : Int32) (0 : Int64)) (1 : Int32) (0 : Int64)) :: oB b502 [p0, p1, p2, p3] :: []) := V510
      obtain ⟨Ga, hGa⟩ : ∃ z, z = (sj (sj (List.replicate 16 (0 : Int64)) (0 : Int32) (0 : Int64)) (1 : Int32) (0 : Int64)) := ⟨_, rfl⟩
      rw [← hGa] at V510v
      have lGa : Ga.length = 16 := by rw [hGa]; simp only [sj_len, List.length_replicate]
      have Z510 : n0 ≤ T510.heap.size := V510v.big 0 rfl
      refine OGets.after st510 ?_
      have Vd511 : OView Z n0 T510.heap (oP b507 [(.ref ap508), (.ref as508), (.ref aq508), (.ref ax508), (.ref ak508), (.int (1 : Int32)), (.ref ag508), (.ref ab508), (.int (2 : Int32))] :: oB ag508 Ga :: oB b502 [p0, p1, p2, p3] :: []) := ((((((V510v.bring 1 rfl).tail.bring 1 rfl).tail.bring 1 rfl).tail.bring 1 rfl).tail.bring 1 rfl).tail.bring 2 rfl).tail
      show OGets p e below _ (T510.setTop (mkF m 95 #[jv p0, sv, jv p1, sv, jv p2, sv, jv p3, sv, iv p4, iv (1 : Int32), iv (0 : Int32), iv fA, iv fC, rv b502, rv b507, uv, uv, uv, uv, uv] []))
      refine OGets.step (fun _ => XS.aload X510.here hx rfl (hb hby at_95) rfl rfl) ?_
      refine OGets.step (fun _ => XS.iload X510.here hx rfl (hb hby at_97) rfl) ?_
      refine OGets.step (fun _ => XS.aload X510.here hx rfl (hb hby at_99) rfl rfl) ?_
      refine OGets.step (fun _ => XS.iload X510.here hx rfl (hb hby at_101) rfl) ?_
      obtain ⟨cq512, kq512, q512a, q512b, q512c⟩ := isOf hZ rfl (Vd511.exa 0 rfl)
      obtain ⟨_, _, ⟨T512, L512, k512, n512⟩, -, X512, ⟨Lc512, hQ512, l512, y512, z512⟩, st512⟩ := X510.virtualBack hx (y := (⟨"com/example/inya/inya/SearchPath", "gather", "(I[JI)V"⟩ : MethodName)) (z := (⟨"com/example/inya/inya/SearchPath", "gather", "(I[JI)V"⟩ : MethodName)) hown (mvT hZ (ow hw 43 rfl)) (mvT hZ (ow hw 44 rfl)) (notFace_of_selects (args := #[]) (mvT hZ (ow hw 46 rfl))) (mvT hZ (ow hw 46 rfl)) (mvT hZ (ow hw 45 rfl)) (by decide) (backOf (W := 0) (rm_gat10 l Z a0 hw [] b507 b502 ap508 as508 aq508 ax508 ak508 ag508 ab508 fA Ga [p0, p1, p2, p3] T510.heap n0 _ Z510 lGa (by simp only [own_l4]) q_fA.1 Vd511 O510q) hZ (ow hw 47 rfl) (ow hw 3 rfl) (by decide) (by decide)) q512a q512c (g := (mkF m 103 #[jv p0, sv, jv p1, sv, jv p2, sv, jv p3, sv, iv p4, iv (1 : Int32), iv (0 : Int32), iv fA, iv fC, rv b502, rv b507, uv, uv, uv, uv, uv] [(.int fA), (.ref b502), (.int (0 : Int32)), (.ref b507)])) rfl (by rw [hml]; rfl) (Steps.refl _) (argsL := [(.int (0 : Int32)), (.ref b502), (.int fA)]) (rest := []) (lenOf pd_14 rfl) rfl (by show 2 * 0 + _ ≤ _; exact Nat.le_of_eq rfl) (hb hby at_103) (fun _ _ => ⟨rfl, rfl, Nat.le_of_ble_eq_true rfl, Nat.le_of_ble_eq_true rfl⟩)
      dsimp only [Pt.U, Pt.locs, Pt.cells, Pt.slots] at X512 l512 y512 z512 st512 hQ512
      rw [l512, y512, z512] at X512
      obtain ⟨rfl, N512q, V512, O512q⟩ := hQ512
      have N512 := Fr.app N510 N512q
      have V512v : OView Z n0 T512.heap (oP b507 [(.ref ap508), (.ref as508), (.ref aq508), (.ref ax508), (.ref ak508), (.int (1 : Int32)), (.ref ag508), (.ref ab508), (.int (2 : Int32))] :: oB ag508 (sj Ga (0 : Int32) ((gj Ga (0 : Int32)) ||| (gj [p0, p1, p2, p3] (fA + (0 : Int32))))) :: oB b502 [p0, p1, p2, p3] :: []) := V512
      obtain ⟨Gb, hGb⟩ : ∃ z, z = (sj Ga (0 : Int32) ((gj Ga (0 : Int32)) ||| (gj [p0, p1, p2, p3] (fA + (0 : Int32))))) := ⟨_, rfl⟩
      rw [← hGb] at V512v
      have lGb : Gb.length = 16 := by rw [hGb]; simp only [sj_len, lGa]
      have Z512 : n0 ≤ T512.heap.size := V512v.big 0 rfl
      refine OGets.after st512 ?_
      refine OGets.step (fun _ => XS.aload X512.here hx rfl (hb hby at_106) rfl rfl) ?_
      refine OGets.step (fun _ => XS.iload X512.here hx rfl (hb hby at_108) rfl) ?_
      refine OGets.step (fun _ => XS.aload X512.here hx rfl (hb hby at_110) rfl rfl) ?_
      refine OGets.step (fun _ => XS.iload X512.here hx rfl (hb hby at_112) rfl) ?_
      obtain ⟨cq513, kq513, q513a, q513b, q513c⟩ := isOf hZ rfl (V512v.exa 0 rfl)
      obtain ⟨_, _, ⟨T513, L513, k513, n513⟩, -, X513, ⟨Lc513, hQ513, l513, y513, z513⟩, st513⟩ := X512.virtualBack hx (y := (⟨"com/example/inya/inya/SearchPath", "gather", "(I[JI)V"⟩ : MethodName)) (z := (⟨"com/example/inya/inya/SearchPath", "gather", "(I[JI)V"⟩ : MethodName)) hown (mvT hZ (ow hw 43 rfl)) (mvT hZ (ow hw 44 rfl)) (notFace_of_selects (args := #[]) (mvT hZ (ow hw 46 rfl))) (mvT hZ (ow hw 46 rfl)) (mvT hZ (ow hw 45 rfl)) (by decide) (backOf (W := 0) (rm_gat10 l Z a0 hw [] b507 b502 ap508 as508 aq508 ax508 ak508 ag508 ab508 fC Gb [p0, p1, p2, p3] T512.heap n0 _ Z512 lGb (by simp only [own_l4]) q_fC.1 V512v O512q) hZ (ow hw 47 rfl) (ow hw 3 rfl) (by decide) (by decide)) q513a q513c (g := (mkF m 114 #[jv p0, sv, jv p1, sv, jv p2, sv, jv p3, sv, iv p4, iv (1 : Int32), iv (0 : Int32), iv fA, iv fC, rv b502, rv b507, uv, uv, uv, uv, uv] [(.int fC), (.ref b502), (.int (0 : Int32)), (.ref b507)])) rfl (by rw [hml]; rfl) (Steps.refl _) (argsL := [(.int (0 : Int32)), (.ref b502), (.int fC)]) (rest := []) (lenOf pd_14 rfl) rfl (by show 2 * 0 + _ ≤ _; exact Nat.le_of_eq rfl) (hb hby at_114) (fun _ _ => ⟨rfl, rfl, Nat.le_of_ble_eq_true rfl, Nat.le_of_ble_eq_true rfl⟩)
      dsimp only [Pt.U, Pt.locs, Pt.cells, Pt.slots] at X513 l513 y513 z513 st513 hQ513
      rw [l513, y513, z513] at X513
      obtain ⟨rfl, N513q, V513, O513q⟩ := hQ513
      have N513 := Fr.app N512 N513q
      have V513v : OView Z n0 T513.heap (oP b507 [(.ref ap508), (.ref as508), (.ref aq508), (.ref ax508), (.ref ak508), (.int (1 : Int32)), (.ref ag508), (.ref ab508), (.int (2 : Int32))] :: oB ag508 (sj Gb (0 : Int32) ((gj Gb (0 : Int32)) ||| (gj [p0, p1, p2, p3] (fC + (0 : Int32))))) :: oB b502 [p0, p1, p2, p3] :: []) := V513
      obtain ⟨Gc, hGc⟩ : ∃ z, z = (sj Gb (0 : Int32) ((gj Gb (0 : Int32)) ||| (gj [p0, p1, p2, p3] (fC + (0 : Int32))))) := ⟨_, rfl⟩
      rw [← hGc] at V513v
      have lGc : Gc.length = 16 := by rw [hGc]; simp only [sj_len, lGb]
      have Z513 : n0 ≤ T513.heap.size := V513v.big 0 rfl
      refine OGets.after st513 ?_
      refine OGets.step (fun _ => XS.aload X513.here hx rfl (hb hby at_117) rfl rfl) ?_
      refine OGets.step (fun _ => XS.iload X513.here hx rfl (hb hby at_119) rfl) ?_
      obtain ⟨cl514, Ar514, S514⟩ := V513v.arr 2 rfl
      refine OGets.step (fun _ => X513.laload hx (j := fA) (v := (.long (gj [p0, p1, p2, p3] fA))) Ar514.1 (State.isArrayOf_alike hZ.alike Ar514.2.1) Ar514.2.2 (own_sin (n := 4) S514 (by simp only [List.length_map, si_len, sj_len, List.length_replicate, own_l4]) (own_in0 q_fA.1)) (own_sgetJ (n := 4) S514 (by simp only [List.length_map, si_len, sj_len, List.length_replicate, own_l4]) (own_in0 q_fA.1)) (g := (mkF m 121 #[jv p0, sv, jv p1, sv, jv p2, sv, jv p3, sv, iv p4, iv (1 : Int32), iv (0 : Int32), iv fA, iv fC, rv b502, rv b507, uv, uv, uv, uv, uv] [(.int fA), (.ref b502)])) rfl rfl (hb hby at_121) _) ?_
      refine OGets.step (fun _ => XS.aload X513.here hx rfl (hb hby at_122) rfl rfl) ?_
      refine OGets.step (fun _ => XS.iload X513.here hx rfl (hb hby at_124) rfl) ?_
      show OGets p e below _ (T513.setTop (mkF m 126 #[jv p0, sv, jv p1, sv, jv p2, sv, jv p3, sv, iv p4, iv (1 : Int32), iv (0 : Int32), iv fA, iv fC, rv b502, rv b507, uv, uv, uv, uv, uv] [(.int fC), (.ref b502), (.long (gj [p0, p1, p2, p3] fA))]))
      obtain ⟨cl515, Ar515, S515⟩ := V513v.arr 2 rfl
      refine OGets.step (fun _ => X513.laload hx (j := fC) (v := (.long (gj [p0, p1, p2, p3] fC))) Ar515.1 (State.isArrayOf_alike hZ.alike Ar515.2.1) Ar515.2.2 (own_sin (n := 4) S515 (by simp only [List.length_map, si_len, sj_len, List.length_replicate, own_l4]) (own_in0 q_fC.1)) (own_sgetJ (n := 4) S515 (by simp only [List.length_map, si_len, sj_len, List.length_replicate, own_l4]) (own_in0 q_fC.1)) (g := (mkF m 126 #[jv p0, sv, jv p1, sv, jv p2, sv, jv p3, sv, iv p4, iv (1 : Int32), iv (0 : Int32), iv fA, iv fC, rv b502, rv b507, uv, uv, uv, uv, uv] [(.int fC), (.ref b502), (.long (gj [p0, p1, p2, p3] fA))])) rfl rfl (hb hby at_126) _) ?_
      refine OGets.step (fun _ => XS.lor X513.here hx rfl (hb hby at_127) rfl) ?_
      show OGets p e below _ (T513.setTop (mkF m 128 #[jv p0, sv, jv p1, sv, jv p2, sv, jv p3, sv, iv p4, iv (1 : Int32), iv (0 : Int32), iv fA, iv fC, rv b502, rv b507, uv, uv, uv, uv, uv] [(.long ((gj [p0, p1, p2, p3] fA) ||| (gj [p0, p1, p2, p3] fC)))]))
      generalize hea : ((gj [p0, p1, p2, p3] fA) ||| (gj [p0, p1, p2, p3] fC)) = ea
      show OGets p e below _ (T513.setTop (mkF m 128 #[jv p0, sv, jv p1, sv, jv p2, sv, jv p3, sv, iv p4, iv (1 : Int32), iv (0 : Int32), iv fA, iv fC, rv b502, rv b507, uv, uv, uv, uv, uv] [(.long ea)]))
      refine OGets.step (fun _ => XS.lstore X513.here hx rfl (hb hby at_128) rfl (l' := #[jv p0, sv, jv p1, sv, jv p2, sv, jv p3, sv, iv p4, iv (1 : Int32), iv (0 : Int32), iv fA, iv fC, rv b502, rv b507, jv ea, sv, uv, uv, uv]) rfl) ?_
      refine OGets.step (fun _ => XS.lconst X513.here hx rfl (hb hby at_130)) ?_
      refine OGets.step (fun _ => XS.lstore X513.here hx rfl (hb hby at_131) rfl (l' := #[jv p0, sv, jv p1, sv, jv p2, sv, jv p3, sv, iv p4, iv (1 : Int32), iv (0 : Int32), iv fA, iv fC, rv b502, rv b507, jv ea, sv, jv (0 : Int64), sv, uv]) rfl) ?_
      refine OGets.step (fun _ => XS.iload X513.here hx rfl (hb hby at_133) rfl) ?_
      refine OGets.step (fun _ => XS.iconst X513.here hx rfl (hb hby at_135)) ?_
      refine OGets.step (fun _ => XS.icmpYes X513.here hx rfl (pc0 := 136) (pc' := 156) rfl (hb hby at_136) rfl (feq (by decide : ¬ ((1 : Int32) = (2 : Int32)))).2 (by decide) (by decide)) ?_
      show OGets p e below _ (T513.setTop (mkF m 156 #[jv p0, sv, jv p1, sv, jv p2, sv, jv p3, sv, iv p4, iv (1 : Int32), iv (0 : Int32), iv fA, iv fC, rv b502, rv b507, jv ea, sv, jv (0 : Int64), sv, uv] []))
      refine OGets.step (fun _ => XS.aload X513.here hx rfl (hb hby at_156) rfl rfl) ?_
      refine OGets.step (fun _ => XS.iconst X513.here hx rfl (hb hby at_158)) ?_
      obtain ⟨cl517, Ar517, S517⟩ := V513v.arr 2 rfl
      refine OGets.step (fun _ => X513.laload hx (j := (0 : Int32)) (v := (.long (gj [p0, p1, p2, p3] (0 : Int32)))) Ar517.1 (State.isArrayOf_alike hZ.alike Ar517.2.1) Ar517.2.2 (own_sin (n := 4) S517 (by simp only [List.length_map, si_len, sj_len, List.length_replicate, own_l4]) (by decide)) (own_sgetJ (n := 4) S517 (by simp only [List.length_map, si_len, sj_len, List.length_replicate, own_l4]) (by decide)) (g := (mkF m 159 #[jv p0, sv, jv p1, sv, jv p2, sv, jv p3, sv, iv p4, iv (1 : Int32), iv (0 : Int32), iv fA, iv fC, rv b502, rv b507, jv ea, sv, jv (0 : Int64), sv, uv] [(.int (0 : Int32)), (.ref b502)])) rfl rfl (hb hby at_159) _) ?_
      refine OGets.step (fun _ => XS.lloadN X513.here hx rfl (hb hby at_160) rfl) ?_
      refine OGets.step (fun _ => XS.lcmp X513.here hx rfl (hb hby at_161) rfl) ?_
      refine OGets.step (fun _ => XS.ifNo X513.here hx rfl (hb hby at_162) rfl ((if0 _ _).trans (teq ((lw_eq _ _).mpr (rfl : (gj [p0, p1, p2, p3] (0 : Int32)) = p0))).2)) ?_
      show OGets p e below _ (T513.setTop (mkF m 165 #[jv p0, sv, jv p1, sv, jv p2, sv, jv p3, sv, iv p4, iv (1 : Int32), iv (0 : Int32), iv fA, iv fC, rv b502, rv b507, jv ea, sv, jv (0 : Int64), sv, uv] []))
      refine OGets.step (fun _ => XS.aload X513.here hx rfl (hb hby at_165) rfl rfl) ?_
      refine OGets.step (fun _ => XS.iconst X513.here hx rfl (hb hby at_167)) ?_
      obtain ⟨cl519, Ar519, S519⟩ := V513v.arr 2 rfl
      refine OGets.step (fun _ => X513.laload hx (j := (1 : Int32)) (v := (.long (gj [p0, p1, p2, p3] (1 : Int32)))) Ar519.1 (State.isArrayOf_alike hZ.alike Ar519.2.1) Ar519.2.2 (own_sin (n := 4) S519 (by simp only [List.length_map, si_len, sj_len, List.length_replicate, own_l4]) (by decide)) (own_sgetJ (n := 4) S519 (by simp only [List.length_map, si_len, sj_len, List.length_replicate, own_l4]) (by decide)) (g := (mkF m 168 #[jv p0, sv, jv p1, sv, jv p2, sv, jv p3, sv, iv p4, iv (1 : Int32), iv (0 : Int32), iv fA, iv fC, rv b502, rv b507, jv ea, sv, jv (0 : Int64), sv, uv] [(.int (1 : Int32)), (.ref b502)])) rfl rfl (hb hby at_168) _) ?_
      refine OGets.step (fun _ => XS.lloadN X513.here hx rfl (hb hby at_169) rfl) ?_
      refine OGets.step (fun _ => XS.lcmp X513.here hx rfl (hb hby at_170) rfl) ?_
      refine OGets.step (fun _ => XS.ifNo X513.here hx rfl (hb hby at_171) rfl ((if0 _ _).trans (teq ((lw_eq _ _).mpr (rfl : (gj [p0, p1, p2, p3] (1 : Int32)) = p1))).2)) ?_
      show OGets p e below _ (T513.setTop (mkF m 174 #[jv p0, sv, jv p1, sv, jv p2, sv, jv p3, sv, iv p4, iv (1 : Int32), iv (0 : Int32), iv fA, iv fC, rv b502, rv b507, jv ea, sv, jv (0 : Int64), sv, uv] []))
      refine OGets.step (fun _ => XS.aload X513.here hx rfl (hb hby at_174) rfl rfl) ?_
      refine OGets.step (fun _ => XS.iconst X513.here hx rfl (hb hby at_176)) ?_
      obtain ⟨cl521, Ar521, S521⟩ := V513v.arr 2 rfl
      refine OGets.step (fun _ => X513.laload hx (j := (2 : Int32)) (v := (.long (gj [p0, p1, p2, p3] (2 : Int32)))) Ar521.1 (State.isArrayOf_alike hZ.alike Ar521.2.1) Ar521.2.2 (own_sin (n := 4) S521 (by simp only [List.length_map, si_len, sj_len, List.length_replicate, own_l4]) (by decide)) (own_sgetJ (n := 4) S521 (by simp only [List.length_map, si_len, sj_len, List.length_replicate, own_l4]) (by decide)) (g := (mkF m 177 #[jv p0, sv, jv p1, sv, jv p2, sv, jv p3, sv, iv p4, iv (1 : Int32), iv (0 : Int32), iv fA, iv fC, rv b502, rv b507, jv ea, sv, jv (0 : Int64), sv, uv] [(.int (2 : Int32)), (.ref b502)])) rfl rfl (hb hby at_177) _) ?_
      refine OGets.step (fun _ => XS.lload X513.here hx rfl (hb hby at_178) rfl) ?_
      refine OGets.step (fun _ => XS.lcmp X513.here hx rfl (hb hby at_180) rfl) ?_
      refine OGets.step (fun _ => XS.ifNo X513.here hx rfl (hb hby at_181) rfl ((if0 _ _).trans (teq ((lw_eq _ _).mpr (rfl : (gj [p0, p1, p2, p3] (2 : Int32)) = p2))).2)) ?_
      show OGets p e below _ (T513.setTop (mkF m 184 #[jv p0, sv, jv p1, sv, jv p2, sv, jv p3, sv, iv p4, iv (1 : Int32), iv (0 : Int32), iv fA, iv fC, rv b502, rv b507, jv ea, sv, jv (0 : Int64), sv, uv] []))
      refine OGets.step (fun _ => XS.aload X513.here hx rfl (hb hby at_184) rfl rfl) ?_
      refine OGets.step (fun _ => XS.iconst X513.here hx rfl (hb hby at_186)) ?_
      obtain ⟨cl523, Ar523, S523⟩ := V513v.arr 2 rfl
      refine OGets.step (fun _ => X513.laload hx (j := (3 : Int32)) (v := (.long (gj [p0, p1, p2, p3] (3 : Int32)))) Ar523.1 (State.isArrayOf_alike hZ.alike Ar523.2.1) Ar523.2.2 (own_sin (n := 4) S523 (by simp only [List.length_map, si_len, sj_len, List.length_replicate, own_l4]) (by decide)) (own_sgetJ (n := 4) S523 (by simp only [List.length_map, si_len, sj_len, List.length_replicate, own_l4]) (by decide)) (g := (mkF m 187 #[jv p0, sv, jv p1, sv, jv p2, sv, jv p3, sv, iv p4, iv (1 : Int32), iv (0 : Int32), iv fA, iv fC, rv b502, rv b507, jv ea, sv, jv (0 : Int64), sv, uv] [(.int (3 : Int32)), (.ref b502)])) rfl rfl (hb hby at_187) _) ?_
      refine OGets.step (fun _ => XS.lload X513.here hx rfl (hb hby at_188) rfl) ?_
      refine OGets.step (fun _ => XS.lcmp X513.here hx rfl (hb hby at_190) rfl) ?_
      refine OGets.step (fun _ => XS.ifNo X513.here hx rfl (hb hby at_191) rfl ((if0 _ _).trans (teq ((lw_eq _ _).mpr (rfl : (gj [p0, p1, p2, p3] (3 : Int32)) = p3))).2)) ?_
      show OGets p e below _ (T513.setTop (mkF m 194 #[jv p0, sv, jv p1, sv, jv p2, sv, jv p3, sv, iv p4, iv (1 : Int32), iv (0 : Int32), iv fA, iv fC, rv b502, rv b507, jv ea, sv, jv (0 : Int64), sv, uv] []))
      refine OGets.step (fun _ => XS.iconst X513.here hx rfl (hb hby at_194)) ?_
      refine OGets.step (fun _ => XS.goto X513.here hx rfl (pc0 := 195) (pc' := 199) rfl (hb hby at_195) (by decide) (by decide)) ?_
      refine OGets.step (fun _ => XS.istore X513.here hx rfl (hb hby at_199) rfl (l' := #[jv p0, sv, jv p1, sv, jv p2, sv, jv p3, sv, iv p4, iv (1 : Int32), iv (0 : Int32), iv fA, iv fC, rv b502, rv b507, jv ea, sv, jv (0 : Int64), sv, iv (1 : Int32)]) rfl) ?_
      refine OGets.step (fun _ => XS.iload X513.here hx rfl (hb hby at_201) rfl) ?_
      refine OGets.step (fun _ => XS.ifNo X513.here hx rfl (hb hby at_203) rfl ((if0 _ _).trans (feq (by decide : ¬ ((1 : Int32) = (0 : Int32)))).1)) ?_
      have hx0 : (gj Gc (0 : Int32)) = ea := by rw [← hea, hGc, hGb, hGa]; exact own_or3 [p0, p1, p2, p3] fA fC
      by_cases hk0 : ea = (0 : Int64)
      · show OGets p e below _ (T513.setTop (mkF m 206 #[jv p0, sv, jv p1, sv, jv p2, sv, jv p3, sv, iv p4, iv (1 : Int32), iv (0 : Int32), iv fA, iv fC, rv b502, rv b507, jv ea, sv, jv (0 : Int64), sv, iv (1 : Int32)] []))
        refine OGets.step (fun _ => XS.aload X513.here hx rfl (hb hby at_206) rfl rfl) ?_
        refine OGets.step (fun _ => XS.iload X513.here hx rfl (hb hby at_208) rfl) ?_
        obtain ⟨cq526, kq526, q526a, q526b, q526c⟩ := isOf hZ rfl (V513v.exa 0 rfl)
        obtain ⟨_, _, ⟨T526, L526, k526, n526⟩, -, X526, ⟨Lc526, hQ526, l526, y526, z526⟩, st526⟩ := X513.virtualBack hx (y := (⟨"com/example/inya/inya/SearchPath", "gathered", "(I)Ljava/util/BitSet;"⟩ : MethodName)) (z := (⟨"com/example/inya/inya/SearchPath", "gathered", "(I)Ljava/util/BitSet;"⟩ : MethodName)) hown (mvT hZ (ow hw 48 rfl)) (mvT hZ (ow hw 49 rfl)) (notFace_of_selects (args := #[]) (mvT hZ (ow hw 51 rfl))) (mvT hZ (ow hw 51 rfl)) (mvT hZ (ow hw 50 rfl)) (by decide) (backOf (W := 0) (rm_gtd100 l Z a0 hw [] b507 ap508 as508 aq508 ax508 ak508 ag508 ab508 Gc T513.heap n0 _ Z513 SA lGc (by rw [hx0]; exact hk0) V513v O513q) hZ (ow hw 52 rfl) (ow hw 3 rfl) (by decide) (by decide)) q526a q526c (g := (mkF m 210 #[jv p0, sv, jv p1, sv, jv p2, sv, jv p3, sv, iv p4, iv (1 : Int32), iv (0 : Int32), iv fA, iv fC, rv b502, rv b507, jv ea, sv, jv (0 : Int64), sv, iv (1 : Int32)] [(.int (0 : Int32)), (.ref b507)])) rfl (by rw [hml]; rfl) (Steps.refl _) (argsL := [(.int (0 : Int32))]) (rest := []) (lenOf pd_15 rfl) rfl (by show 2 * 0 + _ ≤ _; exact Nat.le_of_eq rfl) (hb hby at_210) (fun _ _ => ⟨rfl, rfl, Nat.le_of_ble_eq_true rfl, Nat.le_of_ble_eq_true rfl⟩)
        dsimp only [Pt.U, Pt.locs, Pt.cells, Pt.slots] at X526 l526 y526 z526 st526 hQ526
        rw [l526, y526, z526] at X526
        obtain ⟨u526, f526, rfl, N526q, V526, O526q⟩ := hQ526
        have N526 := Fr.app N513 N526q
        have V526v : OView Z n0 T526.heap (oS u526 [(.int (0 : Int32)), (.int (0 : Int32)), (.ref f526)] :: oB f526 [] :: oP b507 [(.ref ap508), (.ref as508), (.ref aq508), (.ref ax508), (.ref ak508), (.int (1 : Int32)), (.ref ag508), (.ref ab508), (.int (2 : Int32))] :: oB ag508 Gc :: oB b502 [p0, p1, p2, p3] :: []) := V526
        have Z526 : n0 ≤ T526.heap.size := V526v.big 0 rfl
        refine OGets.after st526 ?_
        obtain ⟨cq527, kq527, q527a, q527b, q527c⟩ := isOf hZ rfl (V526v.exa 0 rfl)
        obtain ⟨_, _, ⟨T527, L527, k527, n527⟩, -, X527, ⟨Lc527, hQ527, l527, y527, z527⟩, st527⟩ := X526.virtualBack hx (y := (⟨"java/util/BitSet", "toLongArray", "()[J"⟩ : MethodName)) (z := (⟨"java/util/BitSet", "toLongArray", "()[J"⟩ : MethodName)) hown (mvT hZ (ow hw 105 rfl)) (mvT hZ (ow hw 106 rfl)) (notFace_of_selects (args := #[]) (mvT hZ (ow hw 108 rfl))) (mvT hZ (ow hw 108 rfl)) (mvT hZ (ow hw 107 rfl)) (by decide) (backOf (W := 0) (rm_tla0 l Z a0 hw [] u526 f526 T526.heap n0 _ Z526  V526v O526q) hZ (ow hw 109 rfl) (ow hw 72 rfl) (by decide) (by decide)) q527a q527c (g := (mkF m 213 #[jv p0, sv, jv p1, sv, jv p2, sv, jv p3, sv, iv p4, iv (1 : Int32), iv (0 : Int32), iv fA, iv fC, rv b502, rv b507, jv ea, sv, jv (0 : Int64), sv, iv (1 : Int32)] [(.ref u526)])) rfl (by rw [hml]; rfl) (Steps.refl _) (argsL := []) (rest := []) (lenOf pd_16 rfl) rfl (by show 2 * 0 + _ ≤ _; exact Nat.le_of_eq rfl) (hb hby at_213) (fun _ _ => ⟨rfl, rfl, Nat.le_of_ble_eq_true rfl, Nat.le_of_ble_eq_true rfl⟩)
        dsimp only [Pt.U, Pt.locs, Pt.cells, Pt.slots] at X527 l527 y527 z527 st527 hQ527
        rw [l527, y527, z527] at X527
        obtain ⟨e527, rfl, N527q, V527, O527q⟩ := hQ527
        have N527 := Fr.app N526 N527q
        have V527v : OView Z n0 T527.heap (oB e527 [] :: oS u526 [(.int (0 : Int32)), (.int (0 : Int32)), (.ref f526)] :: oB f526 [] :: oP b507 [(.ref ap508), (.ref as508), (.ref aq508), (.ref ax508), (.ref ak508), (.int (1 : Int32)), (.ref ag508), (.ref ab508), (.int (2 : Int32))] :: oB ag508 Gc :: oB b502 [p0, p1, p2, p3] :: []) := V527
        have Z527 : n0 ≤ T527.heap.size := V527v.big 0 rfl
        refine OGets.after st527 ?_
        refine OGets.step (fun _ => XS.lload X527.here hx rfl (hb hby at_216) rfl) ?_
        refine OGets.step (fun _ => XS.lload X527.here hx rfl (hb hby at_218) rfl) ?_
        obtain ⟨_, _, ⟨T528, L528, k528, n528⟩, -, X528, ⟨Lc528, hQ528, l528, y528, z528⟩, st528⟩ := Jvm.LawKit.callS X527 hx (y := (⟨"com/example/inya/inya/SearchPathGatherPinLaw", "matches", "([JJJ)Z"⟩ : MethodName)) hown (mvT hZ (ow hw 110 rfl)) (mvT hZ (ow hw 111 rfl)) (mvT hZ (ow hw 112 rfl)) (mvT hZ (ow hw 113 rfl)) (by decide) (backOf (W := 0) (rm_mt0 l Z a0 hw [] e527 ea (0 : Int64) T527.heap n0 _ Z527 rfl hk0 V527v) hZ (ow hw 113 rfl) (ow hw 112 rfl) (by decide) (by decide)) (g := (mkF m 220 #[jv p0, sv, jv p1, sv, jv p2, sv, jv p3, sv, iv p4, iv (1 : Int32), iv (0 : Int32), iv fA, iv fC, rv b502, rv b507, jv ea, sv, jv (0 : Int64), sv, iv (1 : Int32)] [(.long (0 : Int64)), (.long ea), (.ref e527)])) rfl (by rw [hml]; rfl) (argsL := [(.ref e527), (.long ea), (.long (0 : Int64))]) (rest := []) (lenOf pd_17 rfl) rfl (by show 2 * 0 + _ ≤ _; exact Nat.le_of_eq rfl) (hb hby at_220) (fun _ _ => ⟨rfl, rfl, Nat.le_of_ble_eq_true rfl, Nat.le_of_ble_eq_true rfl⟩)
        dsimp only [Pt.U, Pt.locs, Pt.cells, Pt.slots] at X528 l528 y528 z528 st528 hQ528
        rw [l528, y528, z528] at X528
        obtain ⟨rfl, rfl, e528⟩ := hQ528
        have N528 := Fr.app N527 (Fr.nil n0)
        refine OGets.step st528 ?_
        refine OGets.step (fun _ => XS.ifNo X528.here hx rfl (hb hby at_223) rfl ((if0 _ _).trans (feq (by decide : ¬ ((1 : Int32) = (0 : Int32)))).1)) ?_
        refine OGets.step (fun _ => XS.aload X528.here hx rfl (hb hby at_226) rfl rfl) ?_
        refine OGets.step (fun _ => XS.iconst X528.here hx rfl (hb hby at_228)) ?_
        refine OGets.step (fun _ => XS.iload X528.here hx rfl (hb hby at_229) rfl) ?_
        refine OGets.step (fun _ => XS.isub X528.here hx rfl (hb hby at_231) rfl) ?_
        show OGets p e below _ (T528.setTop (mkF m 232 #[jv p0, sv, jv p1, sv, jv p2, sv, jv p3, sv, iv p4, iv (1 : Int32), iv (0 : Int32), iv fA, iv fC, rv b502, rv b507, jv ea, sv, jv (0 : Int64), sv, iv (1 : Int32)] [(.int (1 : Int32)), (.ref b507)]))
        have V530_ : OView Z _ T527.heap (oP b507 [(.ref ap508), (.ref as508), (.ref aq508), (.ref ax508), (.ref ak508), (.int (1 : Int32)), (.ref ag508), (.ref ab508), (.int (2 : Int32))] :: oB ag508 Gc :: oB e527 [] :: oS u526 [(.int (0 : Int32)), (.int (0 : Int32)), (.ref f526)] :: oB f526 [] :: oB b502 [p0, p1, p2, p3] :: []) := ((V527v.bring 4 rfl).bring 4 rfl)
        obtain ⟨cq530, kq530, q530a, q530b, q530c⟩ := isOf hZ e528 (V530_.exa 0 rfl)
        obtain ⟨_, _, ⟨T530, L530, k530, n530⟩, -, X530, ⟨Lc530, hQ530, l530, y530, z530⟩, st530⟩ := X528.virtualBack hx (y := (⟨"com/example/inya/inya/SearchPath", "gathered", "(I)Ljava/util/BitSet;"⟩ : MethodName)) (z := (⟨"com/example/inya/inya/SearchPath", "gathered", "(I)Ljava/util/BitSet;"⟩ : MethodName)) hown (mvT hZ (ow hw 48 rfl)) (mvT hZ (ow hw 49 rfl)) (notFace_of_selects (args := #[]) (mvT hZ (ow hw 51 rfl))) (mvT hZ (ow hw 51 rfl)) (mvT hZ (ow hw 50 rfl)) (by decide) (backOf (W := 0) (rm_gtd110 l Z a0 hw [] b507 ap508 as508 aq508 ax508 ak508 ag508 ab508 Gc T527.heap n0 _ Z527 SA lGc (by rw [hGc, hGb, hGa]; rfl) V530_ O527q) hZ (ow hw 52 rfl) (ow hw 3 rfl) (by decide) (by decide)) q530a q530c (g := (mkF m 232 #[jv p0, sv, jv p1, sv, jv p2, sv, jv p3, sv, iv p4, iv (1 : Int32), iv (0 : Int32), iv fA, iv fC, rv b502, rv b507, jv ea, sv, jv (0 : Int64), sv, iv (1 : Int32)] [(.int (1 : Int32)), (.ref b507)])) rfl (by rw [hml]; rfl) (Steps.refl _) (argsL := [(.int (1 : Int32))]) (rest := []) (lenOf pd_15 rfl) rfl (by show 2 * 0 + _ ≤ _; exact Nat.le_of_eq rfl) (hb hby at_232) (fun _ _ => ⟨rfl, e528, Nat.le_of_ble_eq_true rfl, Nat.le_of_ble_eq_true rfl⟩)
        dsimp only [Pt.U, Pt.locs, Pt.cells, Pt.slots] at X530 l530 y530 z530 st530 hQ530
        rw [l530, y530, z530] at X530
        obtain ⟨u530, f530, rfl, N530q, V530, O530q⟩ := hQ530
        have N530 := Fr.app N528 N530q
        have V530v : OView Z n0 T530.heap (oS u530 [(.int (0 : Int32)), (.int (0 : Int32)), (.ref f530)] :: oB f530 [] :: oP b507 [(.ref ap508), (.ref as508), (.ref aq508), (.ref ax508), (.ref ak508), (.int (1 : Int32)), (.ref ag508), (.ref ab508), (.int (2 : Int32))] :: oB ag508 Gc :: oB e527 [] :: oS u526 [(.int (0 : Int32)), (.int (0 : Int32)), (.ref f526)] :: oB f526 [] :: oB b502 [p0, p1, p2, p3] :: []) := V530
        have Z530 : n0 ≤ T530.heap.size := V530v.big 0 rfl
        refine OGets.after st530 ?_
        obtain ⟨cq531, kq531, q531a, q531b, q531c⟩ := isOf hZ rfl (V530v.exa 0 rfl)
        obtain ⟨_, _, ⟨T531, L531, k531, n531⟩, -, X531, ⟨Lc531, hQ531, l531, y531, z531⟩, st531⟩ := X530.virtualBack hx (y := (⟨"java/util/BitSet", "toLongArray", "()[J"⟩ : MethodName)) (z := (⟨"java/util/BitSet", "toLongArray", "()[J"⟩ : MethodName)) hown (mvT hZ (ow hw 105 rfl)) (mvT hZ (ow hw 106 rfl)) (notFace_of_selects (args := #[]) (mvT hZ (ow hw 108 rfl))) (mvT hZ (ow hw 108 rfl)) (mvT hZ (ow hw 107 rfl)) (by decide) (backOf (W := 0) (rm_tla0 l Z a0 hw [] u530 f530 T530.heap n0 _ Z530  V530v O530q) hZ (ow hw 109 rfl) (ow hw 72 rfl) (by decide) (by decide)) q531a q531c (g := (mkF m 235 #[jv p0, sv, jv p1, sv, jv p2, sv, jv p3, sv, iv p4, iv (1 : Int32), iv (0 : Int32), iv fA, iv fC, rv b502, rv b507, jv ea, sv, jv (0 : Int64), sv, iv (1 : Int32)] [(.ref u530)])) rfl (by rw [hml]; rfl) (Steps.refl _) (argsL := []) (rest := []) (lenOf pd_16 rfl) rfl (by show 2 * 0 + _ ≤ _; exact Nat.le_of_eq rfl) (hb hby at_235) (fun _ _ => ⟨rfl, rfl, Nat.le_of_ble_eq_true rfl, Nat.le_of_ble_eq_true rfl⟩)
        dsimp only [Pt.U, Pt.locs, Pt.cells, Pt.slots] at X531 l531 y531 z531 st531 hQ531
        rw [l531, y531, z531] at X531
        obtain ⟨e531, rfl, N531q, V531, O531q⟩ := hQ531
        have N531 := Fr.app N530 N531q
        have V531v : OView Z n0 T531.heap (oB e531 [] :: oS u530 [(.int (0 : Int32)), (.int (0 : Int32)), (.ref f530)] :: oB f530 [] :: oP b507 [(.ref ap508), (.ref as508), (.ref aq508), (.ref ax508), (.ref ak508), (.int (1 : Int32)), (.ref ag508), (.ref ab508), (.int (2 : Int32))] :: oB ag508 Gc :: oB e527 [] :: oS u526 [(.int (0 : Int32)), (.int (0 : Int32)), (.ref f526)] :: oB f526 [] :: oB b502 [p0, p1, p2, p3] :: []) := V531
        have Z531 : n0 ≤ T531.heap.size := V531v.big 0 rfl
        refine OGets.after st531 ?_
        refine OGets.step (fun _ => XS.lconst X531.here hx rfl (hb hby at_238)) ?_
        refine OGets.step (fun _ => XS.lconst X531.here hx rfl (hb hby at_239)) ?_
        obtain ⟨_, _, ⟨T532, L532, k532, n532⟩, -, X532, ⟨Lc532, hQ532, l532, y532, z532⟩, st532⟩ := Jvm.LawKit.callS X531 hx (y := (⟨"com/example/inya/inya/SearchPathGatherPinLaw", "matches", "([JJJ)Z"⟩ : MethodName)) hown (mvT hZ (ow hw 110 rfl)) (mvT hZ (ow hw 111 rfl)) (mvT hZ (ow hw 112 rfl)) (mvT hZ (ow hw 113 rfl)) (by decide) (backOf (W := 0) (rm_mt0 l Z a0 hw [] e531 (0 : Int64) (0 : Int64) T531.heap n0 _ Z531 rfl rfl V531v) hZ (ow hw 113 rfl) (ow hw 112 rfl) (by decide) (by decide)) (g := (mkF m 240 #[jv p0, sv, jv p1, sv, jv p2, sv, jv p3, sv, iv p4, iv (1 : Int32), iv (0 : Int32), iv fA, iv fC, rv b502, rv b507, jv ea, sv, jv (0 : Int64), sv, iv (1 : Int32)] [(.long (0 : Int64)), (.long (0 : Int64)), (.ref e531)])) rfl (by rw [hml]; rfl) (argsL := [(.ref e531), (.long (0 : Int64)), (.long (0 : Int64))]) (rest := []) (lenOf pd_17 rfl) rfl (by show 2 * 0 + _ ≤ _; exact Nat.le_of_eq rfl) (hb hby at_240) (fun _ _ => ⟨rfl, rfl, Nat.le_of_ble_eq_true rfl, Nat.le_of_ble_eq_true rfl⟩)
        dsimp only [Pt.U, Pt.locs, Pt.cells, Pt.slots] at X532 l532 y532 z532 st532 hQ532
        rw [l532, y532, z532] at X532
        obtain ⟨rfl, rfl, e532⟩ := hQ532
        have N532 := Fr.app N531 (Fr.nil n0)
        refine OGets.step st532 ?_
        refine OGets.step (fun _ => XS.ifNo X532.here hx rfl (hb hby at_243) rfl ((if0 _ _).trans (feq (by decide : ¬ ((1 : Int32) = (0 : Int32)))).1)) ?_
        refine OGets.step (fun _ => XS.iconst X532.here hx rfl (hb hby at_246)) ?_
        refine OGets.step (fun _ => XS.goto X532.here hx rfl (pc0 := 247) (pc' := 251) rfl (hb hby at_247) (by decide) (by decide)) ?_
        refine OGets.retN X532 hx hlk (t := .boolean) Bd.returns (by simp) (hb hby at_251) (Nat.le_of_ble_eq_true rfl) (Nat.le_of_ble_eq_true rfl) ?_
        exact ⟨rfl, N532⟩
      · show OGets p e below _ (T513.setTop (mkF m 206 #[jv p0, sv, jv p1, sv, jv p2, sv, jv p3, sv, iv p4, iv (1 : Int32), iv (0 : Int32), iv fA, iv fC, rv b502, rv b507, jv ea, sv, jv (0 : Int64), sv, iv (1 : Int32)] []))
        refine OGets.step (fun _ => XS.aload X513.here hx rfl (hb hby at_206) rfl rfl) ?_
        refine OGets.step (fun _ => XS.iload X513.here hx rfl (hb hby at_208) rfl) ?_
        obtain ⟨cq534, kq534, q534a, q534b, q534c⟩ := isOf hZ rfl (V513v.exa 0 rfl)
        obtain ⟨_, _, ⟨T534, L534, k534, n534⟩, -, X534, ⟨Lc534, hQ534, l534, y534, z534⟩, st534⟩ := X513.virtualBack hx (y := (⟨"com/example/inya/inya/SearchPath", "gathered", "(I)Ljava/util/BitSet;"⟩ : MethodName)) (z := (⟨"com/example/inya/inya/SearchPath", "gathered", "(I)Ljava/util/BitSet;"⟩ : MethodName)) hown (mvT hZ (ow hw 48 rfl)) (mvT hZ (ow hw 49 rfl)) (notFace_of_selects (args := #[]) (mvT hZ (ow hw 51 rfl))) (mvT hZ (ow hw 51 rfl)) (mvT hZ (ow hw 50 rfl)) (by decide) (backOf (W := 0) (rm_gtd101 l Z a0 hw [] b507 ap508 as508 aq508 ax508 ak508 ag508 ab508 Gc T513.heap n0 _ Z513 SA lGc (by rw [hx0]; exact hk0) V513v O513q) hZ (ow hw 52 rfl) (ow hw 3 rfl) (by decide) (by decide)) q534a q534c (g := (mkF m 210 #[jv p0, sv, jv p1, sv, jv p2, sv, jv p3, sv, iv p4, iv (1 : Int32), iv (0 : Int32), iv fA, iv fC, rv b502, rv b507, jv ea, sv, jv (0 : Int64), sv, iv (1 : Int32)] [(.int (0 : Int32)), (.ref b507)])) rfl (by rw [hml]; rfl) (Steps.refl _) (argsL := [(.int (0 : Int32))]) (rest := []) (lenOf pd_15 rfl) rfl (by show 2 * 0 + _ ≤ _; exact Nat.le_of_eq rfl) (hb hby at_210) (fun _ _ => ⟨rfl, rfl, Nat.le_of_ble_eq_true rfl, Nat.le_of_ble_eq_true rfl⟩)
        dsimp only [Pt.U, Pt.locs, Pt.cells, Pt.slots] at X534 l534 y534 z534 st534 hQ534
        rw [l534, y534, z534] at X534
        obtain ⟨u534, f534, rfl, N534q, V534, O534q⟩ := hQ534
        have N534 := Fr.app N513 N534q
        have V534v : OView Z n0 T534.heap (oS u534 [(.int (1 : Int32)), (.int (0 : Int32)), (.ref f534)] :: oB f534 [(gj Gc (0 : Int32))] :: oP b507 [(.ref ap508), (.ref as508), (.ref aq508), (.ref ax508), (.ref ak508), (.int (1 : Int32)), (.ref ag508), (.ref ab508), (.int (2 : Int32))] :: oB ag508 Gc :: oB b502 [p0, p1, p2, p3] :: []) := V534
        have Z534 : n0 ≤ T534.heap.size := V534v.big 0 rfl
        refine OGets.after st534 ?_
        obtain ⟨cq535, kq535, q535a, q535b, q535c⟩ := isOf hZ rfl (V534v.exa 0 rfl)
        obtain ⟨_, _, ⟨T535, L535, k535, n535⟩, -, X535, ⟨Lc535, hQ535, l535, y535, z535⟩, st535⟩ := X534.virtualBack hx (y := (⟨"java/util/BitSet", "toLongArray", "()[J"⟩ : MethodName)) (z := (⟨"java/util/BitSet", "toLongArray", "()[J"⟩ : MethodName)) hown (mvT hZ (ow hw 105 rfl)) (mvT hZ (ow hw 106 rfl)) (notFace_of_selects (args := #[]) (mvT hZ (ow hw 108 rfl))) (mvT hZ (ow hw 108 rfl)) (mvT hZ (ow hw 107 rfl)) (by decide) (backOf (W := 0) (rm_tla1 l Z a0 hw [] u534 f534 (gj Gc (0 : Int32)) T534.heap n0 _ Z534  V534v O534q) hZ (ow hw 109 rfl) (ow hw 72 rfl) (by decide) (by decide)) q535a q535c (g := (mkF m 213 #[jv p0, sv, jv p1, sv, jv p2, sv, jv p3, sv, iv p4, iv (1 : Int32), iv (0 : Int32), iv fA, iv fC, rv b502, rv b507, jv ea, sv, jv (0 : Int64), sv, iv (1 : Int32)] [(.ref u534)])) rfl (by rw [hml]; rfl) (Steps.refl _) (argsL := []) (rest := []) (lenOf pd_16 rfl) rfl (by show 2 * 0 + _ ≤ _; exact Nat.le_of_eq rfl) (hb hby at_213) (fun _ _ => ⟨rfl, rfl, Nat.le_of_ble_eq_true rfl, Nat.le_of_ble_eq_true rfl⟩)
        dsimp only [Pt.U, Pt.locs, Pt.cells, Pt.slots] at X535 l535 y535 z535 st535 hQ535
        rw [l535, y535, z535] at X535
        obtain ⟨e535, rfl, N535q, V535, O535q⟩ := hQ535
        have N535 := Fr.app N534 N535q
        have V535v : OView Z n0 T535.heap (oB e535 [(gj Gc (0 : Int32))] :: oS u534 [(.int (1 : Int32)), (.int (0 : Int32)), (.ref f534)] :: oB f534 [(gj Gc (0 : Int32))] :: oP b507 [(.ref ap508), (.ref as508), (.ref aq508), (.ref ax508), (.ref ak508), (.int (1 : Int32)), (.ref ag508), (.ref ab508), (.int (2 : Int32))] :: oB ag508 Gc :: oB b502 [p0, p1, p2, p3] :: []) := V535
        have Z535 : n0 ≤ T535.heap.size := V535v.big 0 rfl
        refine OGets.after st535 ?_
        refine OGets.step (fun _ => XS.lload X535.here hx rfl (hb hby at_216) rfl) ?_
        refine OGets.step (fun _ => XS.lload X535.here hx rfl (hb hby at_218) rfl) ?_
        obtain ⟨_, _, ⟨T536, L536, k536, n536⟩, -, X536, ⟨Lc536, hQ536, l536, y536, z536⟩, st536⟩ := Jvm.LawKit.callS X535 hx (y := (⟨"com/example/inya/inya/SearchPathGatherPinLaw", "matches", "([JJJ)Z"⟩ : MethodName)) hown (mvT hZ (ow hw 110 rfl)) (mvT hZ (ow hw 111 rfl)) (mvT hZ (ow hw 112 rfl)) (mvT hZ (ow hw 113 rfl)) (by decide) (backOf (W := 0) (rm_mt1 l Z a0 hw [] e535 ea (0 : Int64) (gj Gc (0 : Int32)) T535.heap n0 _ Z535 rfl hk0 hx0 V535v) hZ (ow hw 113 rfl) (ow hw 112 rfl) (by decide) (by decide)) (g := (mkF m 220 #[jv p0, sv, jv p1, sv, jv p2, sv, jv p3, sv, iv p4, iv (1 : Int32), iv (0 : Int32), iv fA, iv fC, rv b502, rv b507, jv ea, sv, jv (0 : Int64), sv, iv (1 : Int32)] [(.long (0 : Int64)), (.long ea), (.ref e535)])) rfl (by rw [hml]; rfl) (argsL := [(.ref e535), (.long ea), (.long (0 : Int64))]) (rest := []) (lenOf pd_17 rfl) rfl (by show 2 * 0 + _ ≤ _; exact Nat.le_of_eq rfl) (hb hby at_220) (fun _ _ => ⟨rfl, rfl, Nat.le_of_ble_eq_true rfl, Nat.le_of_ble_eq_true rfl⟩)
        dsimp only [Pt.U, Pt.locs, Pt.cells, Pt.slots] at X536 l536 y536 z536 st536 hQ536
        rw [l536, y536, z536] at X536
        obtain ⟨rfl, rfl, e536⟩ := hQ536
        have N536 := Fr.app N535 (Fr.nil n0)
        refine OGets.step st536 ?_
        refine OGets.step (fun _ => XS.ifNo X536.here hx rfl (hb hby at_223) rfl ((if0 _ _).trans (feq (by decide : ¬ ((1 : Int32) = (0 : Int32)))).1)) ?_
        refine OGets.step (fun _ => XS.aload X536.here hx rfl (hb hby at_226) rfl rfl) ?_
        refine OGets.step (fun _ => XS.iconst X536.here hx rfl (hb hby at_228)) ?_
        refine OGets.step (fun _ => XS.iload X536.here hx rfl (hb hby at_229) rfl) ?_
        refine OGets.step (fun _ => XS.isub X536.here hx rfl (hb hby at_231) rfl) ?_
        show OGets p e below _ (T536.setTop (mkF m 232 #[jv p0, sv, jv p1, sv, jv p2, sv, jv p3, sv, iv p4, iv (1 : Int32), iv (0 : Int32), iv fA, iv fC, rv b502, rv b507, jv ea, sv, jv (0 : Int64), sv, iv (1 : Int32)] [(.int (1 : Int32)), (.ref b507)]))
        have V538_ : OView Z _ T535.heap (oP b507 [(.ref ap508), (.ref as508), (.ref aq508), (.ref ax508), (.ref ak508), (.int (1 : Int32)), (.ref ag508), (.ref ab508), (.int (2 : Int32))] :: oB ag508 Gc :: oB e535 [(gj Gc (0 : Int32))] :: oS u534 [(.int (1 : Int32)), (.int (0 : Int32)), (.ref f534)] :: oB f534 [(gj Gc (0 : Int32))] :: oB b502 [p0, p1, p2, p3] :: []) := ((V535v.bring 4 rfl).bring 4 rfl)
        obtain ⟨cq538, kq538, q538a, q538b, q538c⟩ := isOf hZ e536 (V538_.exa 0 rfl)
        obtain ⟨_, _, ⟨T538, L538, k538, n538⟩, -, X538, ⟨Lc538, hQ538, l538, y538, z538⟩, st538⟩ := X536.virtualBack hx (y := (⟨"com/example/inya/inya/SearchPath", "gathered", "(I)Ljava/util/BitSet;"⟩ : MethodName)) (z := (⟨"com/example/inya/inya/SearchPath", "gathered", "(I)Ljava/util/BitSet;"⟩ : MethodName)) hown (mvT hZ (ow hw 48 rfl)) (mvT hZ (ow hw 49 rfl)) (notFace_of_selects (args := #[]) (mvT hZ (ow hw 51 rfl))) (mvT hZ (ow hw 51 rfl)) (mvT hZ (ow hw 50 rfl)) (by decide) (backOf (W := 0) (rm_gtd110 l Z a0 hw [] b507 ap508 as508 aq508 ax508 ak508 ag508 ab508 Gc T535.heap n0 _ Z535 SA lGc (by rw [hGc, hGb, hGa]; rfl) V538_ O535q) hZ (ow hw 52 rfl) (ow hw 3 rfl) (by decide) (by decide)) q538a q538c (g := (mkF m 232 #[jv p0, sv, jv p1, sv, jv p2, sv, jv p3, sv, iv p4, iv (1 : Int32), iv (0 : Int32), iv fA, iv fC, rv b502, rv b507, jv ea, sv, jv (0 : Int64), sv, iv (1 : Int32)] [(.int (1 : Int32)), (.ref b507)])) rfl (by rw [hml]; rfl) (Steps.refl _) (argsL := [(.int (1 : Int32))]) (rest := []) (lenOf pd_15 rfl) rfl (by show 2 * 0 + _ ≤ _; exact Nat.le_of_eq rfl) (hb hby at_232) (fun _ _ => ⟨rfl, e536, Nat.le_of_ble_eq_true rfl, Nat.le_of_ble_eq_true rfl⟩)
        dsimp only [Pt.U, Pt.locs, Pt.cells, Pt.slots] at X538 l538 y538 z538 st538 hQ538
        rw [l538, y538, z538] at X538
        obtain ⟨u538, f538, rfl, N538q, V538, O538q⟩ := hQ538
        have N538 := Fr.app N536 N538q
        have V538v : OView Z n0 T538.heap (oS u538 [(.int (0 : Int32)), (.int (0 : Int32)), (.ref f538)] :: oB f538 [] :: oP b507 [(.ref ap508), (.ref as508), (.ref aq508), (.ref ax508), (.ref ak508), (.int (1 : Int32)), (.ref ag508), (.ref ab508), (.int (2 : Int32))] :: oB ag508 Gc :: oB e535 [(gj Gc (0 : Int32))] :: oS u534 [(.int (1 : Int32)), (.int (0 : Int32)), (.ref f534)] :: oB f534 [(gj Gc (0 : Int32))] :: oB b502 [p0, p1, p2, p3] :: []) := V538
        have Z538 : n0 ≤ T538.heap.size := V538v.big 0 rfl
        refine OGets.after st538 ?_
        obtain ⟨cq539, kq539, q539a, q539b, q539c⟩ := isOf hZ rfl (V538v.exa 0 rfl)
        obtain ⟨_, _, ⟨T539, L539, k539, n539⟩, -, X539, ⟨Lc539, hQ539, l539, y539, z539⟩, st539⟩ := X538.virtualBack hx (y := (⟨"java/util/BitSet", "toLongArray", "()[J"⟩ : MethodName)) (z := (⟨"java/util/BitSet", "toLongArray", "()[J"⟩ : MethodName)) hown (mvT hZ (ow hw 105 rfl)) (mvT hZ (ow hw 106 rfl)) (notFace_of_selects (args := #[]) (mvT hZ (ow hw 108 rfl))) (mvT hZ (ow hw 108 rfl)) (mvT hZ (ow hw 107 rfl)) (by decide) (backOf (W := 0) (rm_tla0 l Z a0 hw [] u538 f538 T538.heap n0 _ Z538  V538v O538q) hZ (ow hw 109 rfl) (ow hw 72 rfl) (by decide) (by decide)) q539a q539c (g := (mkF m 235 #[jv p0, sv, jv p1, sv, jv p2, sv, jv p3, sv, iv p4, iv (1 : Int32), iv (0 : Int32), iv fA, iv fC, rv b502, rv b507, jv ea, sv, jv (0 : Int64), sv, iv (1 : Int32)] [(.ref u538)])) rfl (by rw [hml]; rfl) (Steps.refl _) (argsL := []) (rest := []) (lenOf pd_16 rfl) rfl (by show 2 * 0 + _ ≤ _; exact Nat.le_of_eq rfl) (hb hby at_235) (fun _ _ => ⟨rfl, rfl, Nat.le_of_ble_eq_true rfl, Nat.le_of_ble_eq_true rfl⟩)
        dsimp only [Pt.U, Pt.locs, Pt.cells, Pt.slots] at X539 l539 y539 z539 st539 hQ539
        rw [l539, y539, z539] at X539
        obtain ⟨e539, rfl, N539q, V539, O539q⟩ := hQ539
        have N539 := Fr.app N538 N539q
        have V539v : OView Z n0 T539.heap (oB e539 [] :: oS u538 [(.int (0 : Int32)), (.int (0 : Int32)), (.ref f538)] :: oB f538 [] :: oP b507 [(.ref ap508), (.ref as508), (.ref aq508), (.ref ax508), (.ref ak508), (.int (1 : Int32)), (.ref ag508), (.ref ab508), (.int (2 : Int32))] :: oB ag508 Gc :: oB e535 [(gj Gc (0 : Int32))] :: oS u534 [(.int (1 : Int32)), (.int (0 : Int32)), (.ref f534)] :: oB f534 [(gj Gc (0 : Int32))] :: oB b502 [p0, p1, p2, p3] :: []) := V539
        have Z539 : n0 ≤ T539.heap.size := V539v.big 0 rfl
        refine OGets.after st539 ?_
        refine OGets.step (fun _ => XS.lconst X539.here hx rfl (hb hby at_238)) ?_
        refine OGets.step (fun _ => XS.lconst X539.here hx rfl (hb hby at_239)) ?_
        obtain ⟨_, _, ⟨T540, L540, k540, n540⟩, -, X540, ⟨Lc540, hQ540, l540, y540, z540⟩, st540⟩ := Jvm.LawKit.callS X539 hx (y := (⟨"com/example/inya/inya/SearchPathGatherPinLaw", "matches", "([JJJ)Z"⟩ : MethodName)) hown (mvT hZ (ow hw 110 rfl)) (mvT hZ (ow hw 111 rfl)) (mvT hZ (ow hw 112 rfl)) (mvT hZ (ow hw 113 rfl)) (by decide) (backOf (W := 0) (rm_mt0 l Z a0 hw [] e539 (0 : Int64) (0 : Int64) T539.heap n0 _ Z539 rfl rfl V539v) hZ (ow hw 113 rfl) (ow hw 112 rfl) (by decide) (by decide)) (g := (mkF m 240 #[jv p0, sv, jv p1, sv, jv p2, sv, jv p3, sv, iv p4, iv (1 : Int32), iv (0 : Int32), iv fA, iv fC, rv b502, rv b507, jv ea, sv, jv (0 : Int64), sv, iv (1 : Int32)] [(.long (0 : Int64)), (.long (0 : Int64)), (.ref e539)])) rfl (by rw [hml]; rfl) (argsL := [(.ref e539), (.long (0 : Int64)), (.long (0 : Int64))]) (rest := []) (lenOf pd_17 rfl) rfl (by show 2 * 0 + _ ≤ _; exact Nat.le_of_eq rfl) (hb hby at_240) (fun _ _ => ⟨rfl, rfl, Nat.le_of_ble_eq_true rfl, Nat.le_of_ble_eq_true rfl⟩)
        dsimp only [Pt.U, Pt.locs, Pt.cells, Pt.slots] at X540 l540 y540 z540 st540 hQ540
        rw [l540, y540, z540] at X540
        obtain ⟨rfl, rfl, e540⟩ := hQ540
        have N540 := Fr.app N539 (Fr.nil n0)
        refine OGets.step st540 ?_
        refine OGets.step (fun _ => XS.ifNo X540.here hx rfl (hb hby at_243) rfl ((if0 _ _).trans (feq (by decide : ¬ ((1 : Int32) = (0 : Int32)))).1)) ?_
        refine OGets.step (fun _ => XS.iconst X540.here hx rfl (hb hby at_246)) ?_
        refine OGets.step (fun _ => XS.goto X540.here hx rfl (pc0 := 247) (pc' := 251) rfl (hb hby at_247) (by decide) (by decide)) ?_
        refine OGets.retN X540 hx hlk (t := .boolean) Bd.returns (by simp) (hb hby at_251) (Nat.le_of_ble_eq_true rfl) (Nat.le_of_ble_eq_true rfl) ?_
        exact ⟨rfl, N540⟩
    · rw [hpl]
      show OGets p e below _ (s₁.setTop (mkF m 14 #[jv p0, sv, jv p1, sv, jv p2, sv, jv p3, sv, iv p4, iv (1 : Int32), uv, uv, uv, uv, uv, uv, uv, uv, uv, uv] [(.int (1 : Int32))]))
      refine OGets.step (fun _ => XS.istore X0.here hx rfl (hb hby at_14) rfl (l' := #[jv p0, sv, jv p1, sv, jv p2, sv, jv p3, sv, iv p4, iv (1 : Int32), iv (1 : Int32), uv, uv, uv, uv, uv, uv, uv, uv, uv]) rfl) ?_
      refine OGets.step (fun _ => XS.iload X0.here hx rfl (hb hby at_16) rfl) ?_
      refine OGets.step (fun _ => XS.iconst X0.here hx rfl (hb hby at_18)) ?_
      refine OGets.step (fun _ => XS.iushr X0.here hx rfl (hb hby at_19) rfl) ?_
      refine OGets.step (fun _ => XS.sipush X0.here hx rfl (hb hby at_20)) ?_
      refine OGets.step (fun _ => XS.iand X0.here hx rfl (hb hby at_23) rfl) ?_
      show OGets p e below _ (s₁.setTop (mkF m 24 #[jv p0, sv, jv p1, sv, jv p2, sv, jv p3, sv, iv p4, iv (1 : Int32), iv (1 : Int32), uv, uv, uv, uv, uv, uv, uv, uv, uv] [(.int (((p4.toUInt32 >>> ((2 : Int32) &&& 31).toUInt32).toInt32) &&& (32767 : Int32)))]))
      refine OGets.step (fun _ => XS.iconst X0.here hx rfl (hb hby at_24)) ?_
      refine OGets.step (fun _ => XS.iload X0.here hx rfl (hb hby at_25) rfl) ?_
      refine OGets.step (fun _ => XS.isub X0.here hx rfl (hb hby at_27) rfl) ?_
      show OGets p e below _ (s₁.setTop (mkF m 28 #[jv p0, sv, jv p1, sv, jv p2, sv, jv p3, sv, iv p4, iv (1 : Int32), iv (1 : Int32), uv, uv, uv, uv, uv, uv, uv, uv, uv] [(.int (4 : Int32)), (.int (((p4.toUInt32 >>> ((2 : Int32) &&& 31).toUInt32).toInt32) &&& (32767 : Int32)))]))
      refine OGets.step (fun _ => iremM (g := (mkF m 28 #[jv p0, sv, jv p1, sv, jv p2, sv, jv p3, sv, iv p4, iv (1 : Int32), iv (1 : Int32), uv, uv, uv, uv, uv, uv, uv, uv, uv] [(.int (4 : Int32)), (.int (((p4.toUInt32 >>> ((2 : Int32) &&& 31).toUInt32).toInt32) &&& (32767 : Int32)))])) X0 hx rfl (hb hby at_28) rfl (by decide)) ?_
      show OGets p e below _ (s₁.setTop (mkF m 29 #[jv p0, sv, jv p1, sv, jv p2, sv, jv p3, sv, iv p4, iv (1 : Int32), iv (1 : Int32), uv, uv, uv, uv, uv, uv, uv, uv, uv] [(.int ((((p4.toUInt32 >>> ((2 : Int32) &&& 31).toUInt32).toInt32) &&& (32767 : Int32)) % (4 : Int32)))]))
      have q_fA := own_o4 ((p4.toUInt32 >>> ((2 : Int32) &&& 31).toUInt32).toInt32)
      generalize ((((p4.toUInt32 >>> ((2 : Int32) &&& 31).toUInt32).toInt32) &&& (32767 : Int32)) % (4 : Int32)) = fA at q_fA ⊢
      show OGets p e below _ (s₁.setTop (mkF m 29 #[jv p0, sv, jv p1, sv, jv p2, sv, jv p3, sv, iv p4, iv (1 : Int32), iv (1 : Int32), uv, uv, uv, uv, uv, uv, uv, uv, uv] [(.int fA)]))
      refine OGets.step (fun _ => XS.istore X0.here hx rfl (hb hby at_29) rfl (l' := #[jv p0, sv, jv p1, sv, jv p2, sv, jv p3, sv, iv p4, iv (1 : Int32), iv (1 : Int32), iv fA, uv, uv, uv, uv, uv, uv, uv, uv]) rfl) ?_
      refine OGets.step (fun _ => XS.iload X0.here hx rfl (hb hby at_31) rfl) ?_
      refine OGets.step (fun _ => XS.bipush X0.here hx rfl (hb hby at_33)) ?_
      refine OGets.step (fun _ => XS.iushr X0.here hx rfl (hb hby at_35) rfl) ?_
      refine OGets.step (fun _ => XS.sipush X0.here hx rfl (hb hby at_36)) ?_
      refine OGets.step (fun _ => XS.iand X0.here hx rfl (hb hby at_39) rfl) ?_
      show OGets p e below _ (s₁.setTop (mkF m 40 #[jv p0, sv, jv p1, sv, jv p2, sv, jv p3, sv, iv p4, iv (1 : Int32), iv (1 : Int32), iv fA, uv, uv, uv, uv, uv, uv, uv, uv] [(.int (((p4.toUInt32 >>> ((17 : Int32) &&& 31).toUInt32).toInt32) &&& (32767 : Int32)))]))
      refine OGets.step (fun _ => XS.iconst X0.here hx rfl (hb hby at_40)) ?_
      refine OGets.step (fun _ => XS.iload X0.here hx rfl (hb hby at_41) rfl) ?_
      refine OGets.step (fun _ => XS.isub X0.here hx rfl (hb hby at_43) rfl) ?_
      show OGets p e below _ (s₁.setTop (mkF m 44 #[jv p0, sv, jv p1, sv, jv p2, sv, jv p3, sv, iv p4, iv (1 : Int32), iv (1 : Int32), iv fA, uv, uv, uv, uv, uv, uv, uv, uv] [(.int (4 : Int32)), (.int (((p4.toUInt32 >>> ((17 : Int32) &&& 31).toUInt32).toInt32) &&& (32767 : Int32)))]))
      refine OGets.step (fun _ => iremM (g := (mkF m 44 #[jv p0, sv, jv p1, sv, jv p2, sv, jv p3, sv, iv p4, iv (1 : Int32), iv (1 : Int32), iv fA, uv, uv, uv, uv, uv, uv, uv, uv] [(.int (4 : Int32)), (.int (((p4.toUInt32 >>> ((17 : Int32) &&& 31).toUInt32).toInt32) &&& (32767 : Int32)))])) X0 hx rfl (hb hby at_44) rfl (by decide)) ?_
      show OGets p e below _ (s₁.setTop (mkF m 45 #[jv p0, sv, jv p1, sv, jv p2, sv, jv p3, sv, iv p4, iv (1 : Int32), iv (1 : Int32), iv fA, uv, uv, uv, uv, uv, uv, uv, uv] [(.int ((((p4.toUInt32 >>> ((17 : Int32) &&& 31).toUInt32).toInt32) &&& (32767 : Int32)) % (4 : Int32)))]))
      have q_fC := own_o4 ((p4.toUInt32 >>> ((17 : Int32) &&& 31).toUInt32).toInt32)
      generalize ((((p4.toUInt32 >>> ((17 : Int32) &&& 31).toUInt32).toInt32) &&& (32767 : Int32)) % (4 : Int32)) = fC at q_fC ⊢
      show OGets p e below _ (s₁.setTop (mkF m 45 #[jv p0, sv, jv p1, sv, jv p2, sv, jv p3, sv, iv p4, iv (1 : Int32), iv (1 : Int32), iv fA, uv, uv, uv, uv, uv, uv, uv, uv] [(.int fC)]))
      refine OGets.step (fun _ => XS.istore X0.here hx rfl (hb hby at_45) rfl (l' := #[jv p0, sv, jv p1, sv, jv p2, sv, jv p3, sv, iv p4, iv (1 : Int32), iv (1 : Int32), iv fA, iv fC, uv, uv, uv, uv, uv, uv, uv]) rfl) ?_
      refine OGets.step (fun _ => XS.iconst X0.here hx rfl (hb hby at_47)) ?_
      obtain ⟨T542, h542, k542, X542, e542, E542, A542, Ex542, st542⟩ := newPE X0 hx hZ (ow hw 0 rfl) e0 (g := (mkF m 48 #[jv p0, sv, jv p1, sv, jv p2, sv, jv p3, sv, iv p4, iv (1 : Int32), iv (1 : Int32), iv fA, iv fC, uv, uv, uv, uv, uv, uv, uv] [(.int (4 : Int32))])) rfl (hb hby at_48) rfl (by decide) (cap := 4) (by decide) (by decide) (by decide) (by decide) (ad := "[J") (by decide +kernel)
      have V542' := V0.newArr Z0 E542 A542 4 rfl (fun _ => Ex542)
      have Z542 : n0 ≤ h542.size := Nat.le_trans Z0 E542.1
      obtain ⟨b542, g542⟩ : ∃ z, z = h0.size := ⟨_, rfl⟩
      rw [← g542] at V542' st542
      have V542 : OView Z n0 h542 (oB b542 [(0 : Int64), (0 : Int64), (0 : Int64), (0 : Int64)] :: []) := V542'
      have O542 := O0.ext E542
      refine OGets.step st542 ?_
      refine OGets.step (fun _ => XS.dup X542.here hx rfl (hb hby at_50) rfl rfl) ?_
      refine OGets.step (fun _ => XS.iconst X542.here hx rfl (hb hby at_51)) ?_
      refine OGets.step (fun _ => XS.lloadN X542.here hx rfl (hb hby at_52) rfl) ?_
      obtain ⟨cl543, Ar543, S543⟩ := V542.arr 0 rfl
      obtain ⟨T543, h543, X543, e543, W543', st543⟩ := stJ X542 hx hZ e542 Ar543 (j := (0 : Int32)) (own_inb S543 0 (by decide) (Nat.le_of_ble_eq_true rfl)) (g := (mkF m 53 #[jv p0, sv, jv p1, sv, jv p2, sv, jv p3, sv, iv p4, iv (1 : Int32), iv (1 : Int32), iv fA, iv fC, uv, uv, uv, uv, uv, uv, uv] [(.long p0), (.int (0 : Int32)), (.ref b542), (.ref b542)])) rfl rfl (hb hby at_53)
      have W543 := own_wr (vs := []) 0 (by decide) W543'
      have V543 : OView Z n0 h543 (oB b542 [p0, (0 : Int64), (0 : Int64), (0 : Int64)] :: []) := V542.putA 0 rfl W543
      have N543 := Fr.snoc X543 N0 (V542.old 0 rfl)
      have Z543 : n0 ≤ h543.size := by rw [W543.size]; exact Z542
      have O543 := O542.wr W543 (V542.old 0 rfl)
      refine OGets.step st543 ?_
      refine OGets.step (fun _ => XS.dup X543.here hx rfl (hb hby at_54) rfl rfl) ?_
      refine OGets.step (fun _ => XS.iconst X543.here hx rfl (hb hby at_55)) ?_
      refine OGets.step (fun _ => XS.lloadN X543.here hx rfl (hb hby at_56) rfl) ?_
      obtain ⟨cl544, Ar544, S544⟩ := V543.arr 0 rfl
      obtain ⟨T544, h544, X544, e544, W544', st544⟩ := stJ X543 hx hZ e543 Ar544 (j := (1 : Int32)) (own_inb S544 1 (by decide) (Nat.le_of_ble_eq_true rfl)) (g := (mkF m 57 #[jv p0, sv, jv p1, sv, jv p2, sv, jv p3, sv, iv p4, iv (1 : Int32), iv (1 : Int32), iv fA, iv fC, uv, uv, uv, uv, uv, uv, uv] [(.long p1), (.int (1 : Int32)), (.ref b542), (.ref b542)])) rfl rfl (hb hby at_57)
      have W544 := own_wr (vs := []) 1 (by decide) W544'
      have V544 : OView Z n0 h544 (oB b542 [p0, p1, (0 : Int64), (0 : Int64)] :: []) := V543.putA 0 rfl W544
      have N544 := Fr.snoc X544 N543 (V543.old 0 rfl)
      have Z544 : n0 ≤ h544.size := by rw [W544.size]; exact Z543
      have O544 := O543.wr W544 (V543.old 0 rfl)
      refine OGets.step st544 ?_
      refine OGets.step (fun _ => XS.dup X544.here hx rfl (hb hby at_58) rfl rfl) ?_
      refine OGets.step (fun _ => XS.iconst X544.here hx rfl (hb hby at_59)) ?_
      refine OGets.step (fun _ => XS.lload X544.here hx rfl (hb hby at_60) rfl) ?_
      obtain ⟨cl545, Ar545, S545⟩ := V544.arr 0 rfl
      obtain ⟨T545, h545, X545, e545, W545', st545⟩ := stJ X544 hx hZ e544 Ar545 (j := (2 : Int32)) (own_inb S545 2 (by decide) (Nat.le_of_ble_eq_true rfl)) (g := (mkF m 62 #[jv p0, sv, jv p1, sv, jv p2, sv, jv p3, sv, iv p4, iv (1 : Int32), iv (1 : Int32), iv fA, iv fC, uv, uv, uv, uv, uv, uv, uv] [(.long p2), (.int (2 : Int32)), (.ref b542), (.ref b542)])) rfl rfl (hb hby at_62)
      have W545 := own_wr (vs := []) 2 (by decide) W545'
      have V545 : OView Z n0 h545 (oB b542 [p0, p1, p2, (0 : Int64)] :: []) := V544.putA 0 rfl W545
      have N545 := Fr.snoc X545 N544 (V544.old 0 rfl)
      have Z545 : n0 ≤ h545.size := by rw [W545.size]; exact Z544
      have O545 := O544.wr W545 (V544.old 0 rfl)
      refine OGets.step st545 ?_
      refine OGets.step (fun _ => XS.dup X545.here hx rfl (hb hby at_63) rfl rfl) ?_
      refine OGets.step (fun _ => XS.iconst X545.here hx rfl (hb hby at_64)) ?_
      refine OGets.step (fun _ => XS.lload X545.here hx rfl (hb hby at_65) rfl) ?_
      obtain ⟨cl546, Ar546, S546⟩ := V545.arr 0 rfl
      obtain ⟨T546, h546, X546, e546, W546', st546⟩ := stJ X545 hx hZ e545 Ar546 (j := (3 : Int32)) (own_inb S546 3 (by decide) (Nat.le_of_ble_eq_true rfl)) (g := (mkF m 67 #[jv p0, sv, jv p1, sv, jv p2, sv, jv p3, sv, iv p4, iv (1 : Int32), iv (1 : Int32), iv fA, iv fC, uv, uv, uv, uv, uv, uv, uv] [(.long p3), (.int (3 : Int32)), (.ref b542), (.ref b542)])) rfl rfl (hb hby at_67)
      have W546 := own_wr (vs := []) 3 (by decide) W546'
      have V546 : OView Z n0 h546 (oB b542 [p0, p1, p2, p3] :: []) := V545.putA 0 rfl W546
      have N546 := Fr.snoc X546 N545 (V545.old 0 rfl)
      have Z546 : n0 ≤ h546.size := by rw [W546.size]; exact Z545
      have O546 := O545.wr W546 (V545.old 0 rfl)
      refine OGets.step st546 ?_
      show OGets p e below _ (T546.setTop (mkF m 68 #[jv p0, sv, jv p1, sv, jv p2, sv, jv p3, sv, iv p4, iv (1 : Int32), iv (1 : Int32), iv fA, iv fC, uv, uv, uv, uv, uv, uv, uv] [(.ref b542)]))
      refine OGets.step (fun _ => XS.astore X546.here hx rfl (hb hby at_68) rfl rfl (l' := #[jv p0, sv, jv p1, sv, jv p2, sv, jv p3, sv, iv p4, iv (1 : Int32), iv (1 : Int32), iv fA, iv fC, rv b542, uv, uv, uv, uv, uv, uv]) rfl) ?_
      obtain ⟨T547, h547, X547, e547, E547, A547, D547, -, st547⟩ := newO X546 hx hZ hown (ow hw 1 rfl) (ow hw 2 rfl) (ow hw 3 rfl) e546 (g := (mkF m 70 #[jv p0, sv, jv p1, sv, jv p2, sv, jv p3, sv, iv p4, iv (1 : Int32), iv (1 : Int32), iv fA, iv fC, rv b542, uv, uv, uv, uv, uv, uv] [])) rfl (hb hby at_70) (by decide) (by decide)
      have V547' := V546.newObj (ns := ns_SearchPath) (vs := [.null, .null, .null, .null, .null, (.int (0 : Int32)), .null, .null, (.int (0 : Int32))]) Z546 E547 A547 D547 (lay_ns_SearchPath hw) (by decide) (by decide)
      have Z547 : n0 ≤ h547.size := Nat.le_trans Z546 E547.1
      obtain ⟨b547, g547⟩ : ∃ z, z = h546.size := ⟨_, rfl⟩
      rw [← g547] at V547' st547
      have V547 : OView Z n0 h547 (oP b547 [.null, .null, .null, .null, .null, (.int (0 : Int32)), .null, .null, (.int (0 : Int32))] :: oB b542 [p0, p1, p2, p3] :: []) := V547'
      have O547 := O546.ext E547
      refine OGets.step st547 ?_
      refine OGets.step (fun _ => XS.dup X547.here hx rfl (hb hby at_73) rfl rfl) ?_
      refine OGets.step (fun _ => XS.iload X547.here hx rfl (hb hby at_74) rfl) ?_
      obtain ⟨_, _, ⟨T548, L548, k548, n548⟩, -, X548, ⟨Lc548, hQ548, l548, y548, z548⟩, st548⟩ := X547.specialBack hx (y := (⟨"com/example/inya/inya/SearchPath", "<init>", "(I)V"⟩ : MethodName)) rfl hown (mvT hZ (ow hw 4 rfl)) (mvT hZ (ow hw 5 rfl)) (mvT hZ (ow hw 6 rfl)) (by decide) (backOf (W := 1) (rm_ini1 l Z a0 hw [] b547 h547 n0 _ Z547  V547 O547) hZ (ow hw 6 rfl) (ow hw 3 rfl) (by decide) (by decide)) (g := (mkF m 76 #[jv p0, sv, jv p1, sv, jv p2, sv, jv p3, sv, iv p4, iv (1 : Int32), iv (1 : Int32), iv fA, iv fC, rv b542, uv, uv, uv, uv, uv, uv] [(.int (1 : Int32)), (.ref b547), (.ref b547)])) rfl (by rw [hml]; rfl) (Steps.refl _) (a := b547) (argsL := [(.int (1 : Int32))]) (rest := [(.ref b547)]) (lenOf pd_13 rfl) rfl (by show 2 * 0 + _ ≤ _; exact Nat.le_of_eq rfl) (hb hby at_76) (fun _ _ => ⟨rfl, e547, Nat.le_of_ble_eq_true rfl, Nat.le_of_ble_eq_true rfl⟩)
      dsimp only [Pt.U, Pt.locs, Pt.cells, Pt.slots] at X548 l548 y548 z548 st548 hQ548
      rw [l548, y548, z548] at X548
      obtain ⟨rfl, N548q, ap548, as548, aq548, ax548, ak548, ag548, ab548, V548, O548q⟩ := hQ548
      have N548 := Fr.app N546 N548q
      have V548v : OView Z n0 T548.heap (oP b547 [(.ref ap548), (.ref as548), (.ref aq548), (.ref ax548), (.ref ak548), (.int (1 : Int32)), (.ref ag548), (.ref ab548), (.int (0 : Int32))] :: oA ap548 (List.replicate 16 (0 : Int32)) :: oA as548 (List.replicate 16 (0 : Int32)) :: oN aq548 :: oA ax548 (List.replicate 16 (0 : Int32)) :: oA ak548 (List.replicate 16 (0 : Int32)) :: oB ag548 (List.replicate 16 (0 : Int64)) :: oB ab548 (List.replicate 16 (0 : Int64)) :: oB b542 [p0, p1, p2, p3] :: []) := V548
      have Z548 : n0 ≤ T548.heap.size := V548v.big 0 rfl
      refine OGets.after st548 ?_
      refine OGets.step (fun _ => XS.astore X548.here hx rfl (hb hby at_79) rfl rfl (l' := #[jv p0, sv, jv p1, sv, jv p2, sv, jv p3, sv, iv p4, iv (1 : Int32), iv (1 : Int32), iv fA, iv fC, rv b542, rv b547, uv, uv, uv, uv, uv]) rfl) ?_
      refine OGets.step (fun _ => XS.aload X548.here hx rfl (hb hby at_81) rfl rfl) ?_
      refine OGets.step (fun _ => XS.bipush X548.here hx rfl (hb hby at_83)) ?_
      obtain ⟨cq549, kq549, q549a, q549b, q549c⟩ := isOf hZ rfl (V548v.exa 0 rfl)
      obtain ⟨_, _, ⟨T549, L549, k549, n549⟩, -, X549, ⟨Lc549, hQ549, l549, y549, z549⟩, st549⟩ := X548.virtualBack hx (y := (⟨"com/example/inya/inya/SearchPath", "add", "(I)V"⟩ : MethodName)) (z := (⟨"com/example/inya/inya/SearchPath", "add", "(I)V"⟩ : MethodName)) hown (mvT hZ (ow hw 29 rfl)) (mvT hZ (ow hw 30 rfl)) (notFace_of_selects (args := #[]) (mvT hZ (ow hw 32 rfl))) (mvT hZ (ow hw 32 rfl)) (mvT hZ (ow hw 31 rfl)) (by decide) (backOf (W := 0) (rm_add10 l Z a0 hw [] b547 ap548 as548 aq548 ax548 ak548 ag548 ab548 (7 : Int32) (List.replicate 16 (0 : Int32)) (List.replicate 16 (0 : Int32)) (List.replicate 16 (0 : Int32)) (List.replicate 16 (0 : Int32)) (List.replicate 16 (0 : Int64)) (List.replicate 16 (0 : Int64)) T548.heap n0 _ Z548 (by simp only [si_len, sj_len, List.length_replicate]) (by simp only [si_len, sj_len, List.length_replicate]) (by simp only [si_len, sj_len, List.length_replicate]) (by simp only [si_len, sj_len, List.length_replicate]) (by simp only [si_len, sj_len, List.length_replicate]) (by simp only [si_len, sj_len, List.length_replicate]) V548v O548q) hZ (ow hw 33 rfl) (ow hw 3 rfl) (by decide) (by decide)) q549a q549c (g := (mkF m 85 #[jv p0, sv, jv p1, sv, jv p2, sv, jv p3, sv, iv p4, iv (1 : Int32), iv (1 : Int32), iv fA, iv fC, rv b542, rv b547, uv, uv, uv, uv, uv] [(.int (7 : Int32)), (.ref b547)])) rfl (by rw [hml]; rfl) (Steps.refl _) (argsL := [(.int (7 : Int32))]) (rest := []) (lenOf pd_13 rfl) rfl (by show 2 * 0 + _ ≤ _; exact Nat.le_of_eq rfl) (hb hby at_85) (fun _ _ => ⟨rfl, rfl, Nat.le_of_ble_eq_true rfl, Nat.le_of_ble_eq_true rfl⟩)
      dsimp only [Pt.U, Pt.locs, Pt.cells, Pt.slots] at X549 l549 y549 z549 st549 hQ549
      rw [l549, y549, z549] at X549
      obtain ⟨rfl, N549q, V549, O549q⟩ := hQ549
      have N549 := Fr.app N548 N549q
      have V549v : OView Z n0 T549.heap (oP b547 [(.ref ap548), (.ref as548), (.ref aq548), (.ref ax548), (.ref ak548), (.int (1 : Int32)), (.ref ag548), (.ref ab548), (.int (1 : Int32))] :: oA ap548 (si (List.replicate 16 (0 : Int32)) (0 : Int32) (7 : Int32)) :: oA as548 (si (List.replicate 16 (0 : Int32)) (0 : Int32) (0 : Int32)) :: oN aq548 :: oA ax548 (si (List.replicate 16 (0 : Int32)) (0 : Int32) (0 : Int32)) :: oA ak548 (si (List.replicate 16 (0 : Int32)) (0 : Int32) (-1 : Int32)) :: oB ag548 (sj (List.replicate 16 (0 : Int64)) (0 : Int32) (0 : Int64)) :: oB ab548 (sj (List.replicate 16 (0 : Int64)) (0 : Int32) (0 : Int64)) :: oB b542 [p0, p1, p2, p3] :: []) := V549
      have Z549 : n0 ≤ T549.heap.size := V549v.big 0 rfl
      refine OGets.after st549 ?_
      refine OGets.step (fun _ => XS.aload X549.here hx rfl (hb hby at_88) rfl rfl) ?_
      refine OGets.step (fun _ => XS.bipush X549.here hx rfl (hb hby at_90)) ?_
      obtain ⟨cq550, kq550, q550a, q550b, q550c⟩ := isOf hZ rfl (V549v.exa 0 rfl)
      obtain ⟨_, _, ⟨T550, L550, k550, n550⟩, -, X550, ⟨Lc550, hQ550, l550, y550, z550⟩, st550⟩ := X549.virtualBack hx (y := (⟨"com/example/inya/inya/SearchPath", "add", "(I)V"⟩ : MethodName)) (z := (⟨"com/example/inya/inya/SearchPath", "add", "(I)V"⟩ : MethodName)) hown (mvT hZ (ow hw 29 rfl)) (mvT hZ (ow hw 30 rfl)) (notFace_of_selects (args := #[]) (mvT hZ (ow hw 32 rfl))) (mvT hZ (ow hw 32 rfl)) (mvT hZ (ow hw 31 rfl)) (by decide) (backOf (W := 0) (rm_add11 l Z a0 hw [] b547 ap548 as548 aq548 ax548 ak548 ag548 ab548 (9 : Int32) (si (List.replicate 16 (0 : Int32)) (0 : Int32) (7 : Int32)) (si (List.replicate 16 (0 : Int32)) (0 : Int32) (0 : Int32)) (si (List.replicate 16 (0 : Int32)) (0 : Int32) (0 : Int32)) (si (List.replicate 16 (0 : Int32)) (0 : Int32) (-1 : Int32)) (sj (List.replicate 16 (0 : Int64)) (0 : Int32) (0 : Int64)) (sj (List.replicate 16 (0 : Int64)) (0 : Int32) (0 : Int64)) T549.heap n0 _ Z549 (by simp only [si_len, sj_len, List.length_replicate]) (by simp only [si_len, sj_len, List.length_replicate]) (by simp only [si_len, sj_len, List.length_replicate]) (by simp only [si_len, sj_len, List.length_replicate]) (by simp only [si_len, sj_len, List.length_replicate]) (by simp only [si_len, sj_len, List.length_replicate]) V549v O549q) hZ (ow hw 33 rfl) (ow hw 3 rfl) (by decide) (by decide)) q550a q550c (g := (mkF m 92 #[jv p0, sv, jv p1, sv, jv p2, sv, jv p3, sv, iv p4, iv (1 : Int32), iv (1 : Int32), iv fA, iv fC, rv b542, rv b547, uv, uv, uv, uv, uv] [(.int (9 : Int32)), (.ref b547)])) rfl (by rw [hml]; rfl) (Steps.refl _) (argsL := [(.int (9 : Int32))]) (rest := []) (lenOf pd_13 rfl) rfl (by show 2 * 0 + _ ≤ _; exact Nat.le_of_eq rfl) (hb hby at_92) (fun _ _ => ⟨rfl, rfl, Nat.le_of_ble_eq_true rfl, Nat.le_of_ble_eq_true rfl⟩)
      dsimp only [Pt.U, Pt.locs, Pt.cells, Pt.slots] at X550 l550 y550 z550 st550 hQ550
      rw [l550, y550, z550] at X550
      obtain ⟨rfl, N550q, V550, O550q⟩ := hQ550
      have N550 := Fr.app N549 N550q
      have V550v : OView Z n0 T550.heap (oP b547 [(.ref ap548), (.ref as548), (.ref aq548), (.ref ax548), (.ref ak548), (.int (1 : Int32)), (.ref ag548), (.ref ab548), (.int (2 : Int32))] :: oA ap548 (si (si (List.replicate 16 (0 : Int32)) (0 : Int32) (7 : Int32)) (1 : Int32) (9 : Int32)) :: oA as548 (si (si (List.replicate 16 (0 : Int32)) (0 : Int32) (0 : Int32)) (1 : Int32) (0 : Int32)) :: oN aq548 :: oA ax548 (si (si (List.replicate 16 (0 : Int32)) (0 : Int32) (0 : Int32)) (1 : Int32) (0 : Int32)) :: oA ak548 (si (si (List.replicate 16 (0 : Int32)) (0 : Int32) (-1 : Int32)) (1 : Int32) (-1 : Int32)) :: oB ag548 (sj (sj (List.replicate 16 (0 : Int64)) (0 : Int32) (0 : Int64)) (1 : Int32) (0 : Int64)) :: oB ab548 (sj (sj (List.replicate 16 (0 : Int64)) (0 : Int32) (0 : Int64)) (1 : Int32) (0 : Int64)) :: oB b542 [p0, p1, p2, p3] :: []) := V550
      obtain ⟨Ga, hGa⟩ : ∃ z, z = (sj (sj (List.replicate 16 (0 : Int64)) (0 : Int32) (0 : Int64)) (1 : Int32) (0 : Int64)) := ⟨_, rfl⟩
      rw [← hGa] at V550v
      have lGa : Ga.length = 16 := by rw [hGa]; simp only [sj_len, List.length_replicate]
      have Z550 : n0 ≤ T550.heap.size := V550v.big 0 rfl
      refine OGets.after st550 ?_
      have Vd551 : OView Z n0 T550.heap (oP b547 [(.ref ap548), (.ref as548), (.ref aq548), (.ref ax548), (.ref ak548), (.int (1 : Int32)), (.ref ag548), (.ref ab548), (.int (2 : Int32))] :: oB ag548 Ga :: oB b542 [p0, p1, p2, p3] :: []) := ((((((V550v.bring 1 rfl).tail.bring 1 rfl).tail.bring 1 rfl).tail.bring 1 rfl).tail.bring 1 rfl).tail.bring 2 rfl).tail
      show OGets p e below _ (T550.setTop (mkF m 95 #[jv p0, sv, jv p1, sv, jv p2, sv, jv p3, sv, iv p4, iv (1 : Int32), iv (1 : Int32), iv fA, iv fC, rv b542, rv b547, uv, uv, uv, uv, uv] []))
      refine OGets.step (fun _ => XS.aload X550.here hx rfl (hb hby at_95) rfl rfl) ?_
      refine OGets.step (fun _ => XS.iload X550.here hx rfl (hb hby at_97) rfl) ?_
      refine OGets.step (fun _ => XS.aload X550.here hx rfl (hb hby at_99) rfl rfl) ?_
      refine OGets.step (fun _ => XS.iload X550.here hx rfl (hb hby at_101) rfl) ?_
      obtain ⟨cq552, kq552, q552a, q552b, q552c⟩ := isOf hZ rfl (Vd551.exa 0 rfl)
      obtain ⟨_, _, ⟨T552, L552, k552, n552⟩, -, X552, ⟨Lc552, hQ552, l552, y552, z552⟩, st552⟩ := X550.virtualBack hx (y := (⟨"com/example/inya/inya/SearchPath", "gather", "(I[JI)V"⟩ : MethodName)) (z := (⟨"com/example/inya/inya/SearchPath", "gather", "(I[JI)V"⟩ : MethodName)) hown (mvT hZ (ow hw 43 rfl)) (mvT hZ (ow hw 44 rfl)) (notFace_of_selects (args := #[]) (mvT hZ (ow hw 46 rfl))) (mvT hZ (ow hw 46 rfl)) (mvT hZ (ow hw 45 rfl)) (by decide) (backOf (W := 0) (rm_gat11 l Z a0 hw [] b547 b542 ap548 as548 aq548 ax548 ak548 ag548 ab548 fA Ga [p0, p1, p2, p3] T550.heap n0 _ Z550 lGa (by simp only [own_l4]) q_fA.1 Vd551 O550q) hZ (ow hw 47 rfl) (ow hw 3 rfl) (by decide) (by decide)) q552a q552c (g := (mkF m 103 #[jv p0, sv, jv p1, sv, jv p2, sv, jv p3, sv, iv p4, iv (1 : Int32), iv (1 : Int32), iv fA, iv fC, rv b542, rv b547, uv, uv, uv, uv, uv] [(.int fA), (.ref b542), (.int (1 : Int32)), (.ref b547)])) rfl (by rw [hml]; rfl) (Steps.refl _) (argsL := [(.int (1 : Int32)), (.ref b542), (.int fA)]) (rest := []) (lenOf pd_14 rfl) rfl (by show 2 * 0 + _ ≤ _; exact Nat.le_of_eq rfl) (hb hby at_103) (fun _ _ => ⟨rfl, rfl, Nat.le_of_ble_eq_true rfl, Nat.le_of_ble_eq_true rfl⟩)
      dsimp only [Pt.U, Pt.locs, Pt.cells, Pt.slots] at X552 l552 y552 z552 st552 hQ552
      rw [l552, y552, z552] at X552
      obtain ⟨rfl, N552q, V552, O552q⟩ := hQ552
      have N552 := Fr.app N550 N552q
      have V552v : OView Z n0 T552.heap (oP b547 [(.ref ap548), (.ref as548), (.ref aq548), (.ref ax548), (.ref ak548), (.int (1 : Int32)), (.ref ag548), (.ref ab548), (.int (2 : Int32))] :: oB ag548 (sj Ga (1 : Int32) ((gj Ga (1 : Int32)) ||| (gj [p0, p1, p2, p3] (fA + (0 : Int32))))) :: oB b542 [p0, p1, p2, p3] :: []) := V552
      obtain ⟨Gb, hGb⟩ : ∃ z, z = (sj Ga (1 : Int32) ((gj Ga (1 : Int32)) ||| (gj [p0, p1, p2, p3] (fA + (0 : Int32))))) := ⟨_, rfl⟩
      rw [← hGb] at V552v
      have lGb : Gb.length = 16 := by rw [hGb]; simp only [sj_len, lGa]
      have Z552 : n0 ≤ T552.heap.size := V552v.big 0 rfl
      refine OGets.after st552 ?_
      refine OGets.step (fun _ => XS.aload X552.here hx rfl (hb hby at_106) rfl rfl) ?_
      refine OGets.step (fun _ => XS.iload X552.here hx rfl (hb hby at_108) rfl) ?_
      refine OGets.step (fun _ => XS.aload X552.here hx rfl (hb hby at_110) rfl rfl) ?_
      refine OGets.step (fun _ => XS.iload X552.here hx rfl (hb hby at_112) rfl) ?_
      obtain ⟨cq553, kq553, q553a, q553b, q553c⟩ := isOf hZ rfl (V552v.exa 0 rfl)
      obtain ⟨_, _, ⟨T553, L553, k553, n553⟩, -, X553, ⟨Lc553, hQ553, l553, y553, z553⟩, st553⟩ := X552.virtualBack hx (y := (⟨"com/example/inya/inya/SearchPath", "gather", "(I[JI)V"⟩ : MethodName)) (z := (⟨"com/example/inya/inya/SearchPath", "gather", "(I[JI)V"⟩ : MethodName)) hown (mvT hZ (ow hw 43 rfl)) (mvT hZ (ow hw 44 rfl)) (notFace_of_selects (args := #[]) (mvT hZ (ow hw 46 rfl))) (mvT hZ (ow hw 46 rfl)) (mvT hZ (ow hw 45 rfl)) (by decide) (backOf (W := 0) (rm_gat11 l Z a0 hw [] b547 b542 ap548 as548 aq548 ax548 ak548 ag548 ab548 fC Gb [p0, p1, p2, p3] T552.heap n0 _ Z552 lGb (by simp only [own_l4]) q_fC.1 V552v O552q) hZ (ow hw 47 rfl) (ow hw 3 rfl) (by decide) (by decide)) q553a q553c (g := (mkF m 114 #[jv p0, sv, jv p1, sv, jv p2, sv, jv p3, sv, iv p4, iv (1 : Int32), iv (1 : Int32), iv fA, iv fC, rv b542, rv b547, uv, uv, uv, uv, uv] [(.int fC), (.ref b542), (.int (1 : Int32)), (.ref b547)])) rfl (by rw [hml]; rfl) (Steps.refl _) (argsL := [(.int (1 : Int32)), (.ref b542), (.int fC)]) (rest := []) (lenOf pd_14 rfl) rfl (by show 2 * 0 + _ ≤ _; exact Nat.le_of_eq rfl) (hb hby at_114) (fun _ _ => ⟨rfl, rfl, Nat.le_of_ble_eq_true rfl, Nat.le_of_ble_eq_true rfl⟩)
      dsimp only [Pt.U, Pt.locs, Pt.cells, Pt.slots] at X553 l553 y553 z553 st553 hQ553
      rw [l553, y553, z553] at X553
      obtain ⟨rfl, N553q, V553, O553q⟩ := hQ553
      have N553 := Fr.app N552 N553q
      have V553v : OView Z n0 T553.heap (oP b547 [(.ref ap548), (.ref as548), (.ref aq548), (.ref ax548), (.ref ak548), (.int (1 : Int32)), (.ref ag548), (.ref ab548), (.int (2 : Int32))] :: oB ag548 (sj Gb (1 : Int32) ((gj Gb (1 : Int32)) ||| (gj [p0, p1, p2, p3] (fC + (0 : Int32))))) :: oB b542 [p0, p1, p2, p3] :: []) := V553
      obtain ⟨Gc, hGc⟩ : ∃ z, z = (sj Gb (1 : Int32) ((gj Gb (1 : Int32)) ||| (gj [p0, p1, p2, p3] (fC + (0 : Int32))))) := ⟨_, rfl⟩
      rw [← hGc] at V553v
      have lGc : Gc.length = 16 := by rw [hGc]; simp only [sj_len, lGb]
      have Z553 : n0 ≤ T553.heap.size := V553v.big 0 rfl
      refine OGets.after st553 ?_
      refine OGets.step (fun _ => XS.aload X553.here hx rfl (hb hby at_117) rfl rfl) ?_
      refine OGets.step (fun _ => XS.iload X553.here hx rfl (hb hby at_119) rfl) ?_
      obtain ⟨cl554, Ar554, S554⟩ := V553v.arr 2 rfl
      refine OGets.step (fun _ => X553.laload hx (j := fA) (v := (.long (gj [p0, p1, p2, p3] fA))) Ar554.1 (State.isArrayOf_alike hZ.alike Ar554.2.1) Ar554.2.2 (own_sin (n := 4) S554 (by simp only [List.length_map, si_len, sj_len, List.length_replicate, own_l4]) (own_in0 q_fA.1)) (own_sgetJ (n := 4) S554 (by simp only [List.length_map, si_len, sj_len, List.length_replicate, own_l4]) (own_in0 q_fA.1)) (g := (mkF m 121 #[jv p0, sv, jv p1, sv, jv p2, sv, jv p3, sv, iv p4, iv (1 : Int32), iv (1 : Int32), iv fA, iv fC, rv b542, rv b547, uv, uv, uv, uv, uv] [(.int fA), (.ref b542)])) rfl rfl (hb hby at_121) _) ?_
      refine OGets.step (fun _ => XS.aload X553.here hx rfl (hb hby at_122) rfl rfl) ?_
      refine OGets.step (fun _ => XS.iload X553.here hx rfl (hb hby at_124) rfl) ?_
      show OGets p e below _ (T553.setTop (mkF m 126 #[jv p0, sv, jv p1, sv, jv p2, sv, jv p3, sv, iv p4, iv (1 : Int32), iv (1 : Int32), iv fA, iv fC, rv b542, rv b547, uv, uv, uv, uv, uv] [(.int fC), (.ref b542), (.long (gj [p0, p1, p2, p3] fA))]))
      obtain ⟨cl555, Ar555, S555⟩ := V553v.arr 2 rfl
      refine OGets.step (fun _ => X553.laload hx (j := fC) (v := (.long (gj [p0, p1, p2, p3] fC))) Ar555.1 (State.isArrayOf_alike hZ.alike Ar555.2.1) Ar555.2.2 (own_sin (n := 4) S555 (by simp only [List.length_map, si_len, sj_len, List.length_replicate, own_l4]) (own_in0 q_fC.1)) (own_sgetJ (n := 4) S555 (by simp only [List.length_map, si_len, sj_len, List.length_replicate, own_l4]) (own_in0 q_fC.1)) (g := (mkF m 126 #[jv p0, sv, jv p1, sv, jv p2, sv, jv p3, sv, iv p4, iv (1 : Int32), iv (1 : Int32), iv fA, iv fC, rv b542, rv b547, uv, uv, uv, uv, uv] [(.int fC), (.ref b542), (.long (gj [p0, p1, p2, p3] fA))])) rfl rfl (hb hby at_126) _) ?_
      refine OGets.step (fun _ => XS.lor X553.here hx rfl (hb hby at_127) rfl) ?_
      show OGets p e below _ (T553.setTop (mkF m 128 #[jv p0, sv, jv p1, sv, jv p2, sv, jv p3, sv, iv p4, iv (1 : Int32), iv (1 : Int32), iv fA, iv fC, rv b542, rv b547, uv, uv, uv, uv, uv] [(.long ((gj [p0, p1, p2, p3] fA) ||| (gj [p0, p1, p2, p3] fC)))]))
      generalize hea : ((gj [p0, p1, p2, p3] fA) ||| (gj [p0, p1, p2, p3] fC)) = ea
      show OGets p e below _ (T553.setTop (mkF m 128 #[jv p0, sv, jv p1, sv, jv p2, sv, jv p3, sv, iv p4, iv (1 : Int32), iv (1 : Int32), iv fA, iv fC, rv b542, rv b547, uv, uv, uv, uv, uv] [(.long ea)]))
      refine OGets.step (fun _ => XS.lstore X553.here hx rfl (hb hby at_128) rfl (l' := #[jv p0, sv, jv p1, sv, jv p2, sv, jv p3, sv, iv p4, iv (1 : Int32), iv (1 : Int32), iv fA, iv fC, rv b542, rv b547, jv ea, sv, uv, uv, uv]) rfl) ?_
      refine OGets.step (fun _ => XS.lconst X553.here hx rfl (hb hby at_130)) ?_
      refine OGets.step (fun _ => XS.lstore X553.here hx rfl (hb hby at_131) rfl (l' := #[jv p0, sv, jv p1, sv, jv p2, sv, jv p3, sv, iv p4, iv (1 : Int32), iv (1 : Int32), iv fA, iv fC, rv b542, rv b547, jv ea, sv, jv (0 : Int64), sv, uv]) rfl) ?_
      refine OGets.step (fun _ => XS.iload X553.here hx rfl (hb hby at_133) rfl) ?_
      refine OGets.step (fun _ => XS.iconst X553.here hx rfl (hb hby at_135)) ?_
      refine OGets.step (fun _ => XS.icmpYes X553.here hx rfl (pc0 := 136) (pc' := 156) rfl (hb hby at_136) rfl (feq (by decide : ¬ ((1 : Int32) = (2 : Int32)))).2 (by decide) (by decide)) ?_
      show OGets p e below _ (T553.setTop (mkF m 156 #[jv p0, sv, jv p1, sv, jv p2, sv, jv p3, sv, iv p4, iv (1 : Int32), iv (1 : Int32), iv fA, iv fC, rv b542, rv b547, jv ea, sv, jv (0 : Int64), sv, uv] []))
      refine OGets.step (fun _ => XS.aload X553.here hx rfl (hb hby at_156) rfl rfl) ?_
      refine OGets.step (fun _ => XS.iconst X553.here hx rfl (hb hby at_158)) ?_
      obtain ⟨cl557, Ar557, S557⟩ := V553v.arr 2 rfl
      refine OGets.step (fun _ => X553.laload hx (j := (0 : Int32)) (v := (.long (gj [p0, p1, p2, p3] (0 : Int32)))) Ar557.1 (State.isArrayOf_alike hZ.alike Ar557.2.1) Ar557.2.2 (own_sin (n := 4) S557 (by simp only [List.length_map, si_len, sj_len, List.length_replicate, own_l4]) (by decide)) (own_sgetJ (n := 4) S557 (by simp only [List.length_map, si_len, sj_len, List.length_replicate, own_l4]) (by decide)) (g := (mkF m 159 #[jv p0, sv, jv p1, sv, jv p2, sv, jv p3, sv, iv p4, iv (1 : Int32), iv (1 : Int32), iv fA, iv fC, rv b542, rv b547, jv ea, sv, jv (0 : Int64), sv, uv] [(.int (0 : Int32)), (.ref b542)])) rfl rfl (hb hby at_159) _) ?_
      refine OGets.step (fun _ => XS.lloadN X553.here hx rfl (hb hby at_160) rfl) ?_
      refine OGets.step (fun _ => XS.lcmp X553.here hx rfl (hb hby at_161) rfl) ?_
      refine OGets.step (fun _ => XS.ifNo X553.here hx rfl (hb hby at_162) rfl ((if0 _ _).trans (teq ((lw_eq _ _).mpr (rfl : (gj [p0, p1, p2, p3] (0 : Int32)) = p0))).2)) ?_
      show OGets p e below _ (T553.setTop (mkF m 165 #[jv p0, sv, jv p1, sv, jv p2, sv, jv p3, sv, iv p4, iv (1 : Int32), iv (1 : Int32), iv fA, iv fC, rv b542, rv b547, jv ea, sv, jv (0 : Int64), sv, uv] []))
      refine OGets.step (fun _ => XS.aload X553.here hx rfl (hb hby at_165) rfl rfl) ?_
      refine OGets.step (fun _ => XS.iconst X553.here hx rfl (hb hby at_167)) ?_
      obtain ⟨cl559, Ar559, S559⟩ := V553v.arr 2 rfl
      refine OGets.step (fun _ => X553.laload hx (j := (1 : Int32)) (v := (.long (gj [p0, p1, p2, p3] (1 : Int32)))) Ar559.1 (State.isArrayOf_alike hZ.alike Ar559.2.1) Ar559.2.2 (own_sin (n := 4) S559 (by simp only [List.length_map, si_len, sj_len, List.length_replicate, own_l4]) (by decide)) (own_sgetJ (n := 4) S559 (by simp only [List.length_map, si_len, sj_len, List.length_replicate, own_l4]) (by decide)) (g := (mkF m 168 #[jv p0, sv, jv p1, sv, jv p2, sv, jv p3, sv, iv p4, iv (1 : Int32), iv (1 : Int32), iv fA, iv fC, rv b542, rv b547, jv ea, sv, jv (0 : Int64), sv, uv] [(.int (1 : Int32)), (.ref b542)])) rfl rfl (hb hby at_168) _) ?_
      refine OGets.step (fun _ => XS.lloadN X553.here hx rfl (hb hby at_169) rfl) ?_
      refine OGets.step (fun _ => XS.lcmp X553.here hx rfl (hb hby at_170) rfl) ?_
      refine OGets.step (fun _ => XS.ifNo X553.here hx rfl (hb hby at_171) rfl ((if0 _ _).trans (teq ((lw_eq _ _).mpr (rfl : (gj [p0, p1, p2, p3] (1 : Int32)) = p1))).2)) ?_
      show OGets p e below _ (T553.setTop (mkF m 174 #[jv p0, sv, jv p1, sv, jv p2, sv, jv p3, sv, iv p4, iv (1 : Int32), iv (1 : Int32), iv fA, iv fC, rv b542, rv b547, jv ea, sv, jv (0 : Int64), sv, uv] []))
      refine OGets.step (fun _ => XS.aload X553.here hx rfl (hb hby at_174) rfl rfl) ?_
      refine OGets.step (fun _ => XS.iconst X553.here hx rfl (hb hby at_176)) ?_
      obtain ⟨cl561, Ar561, S561⟩ := V553v.arr 2 rfl
      refine OGets.step (fun _ => X553.laload hx (j := (2 : Int32)) (v := (.long (gj [p0, p1, p2, p3] (2 : Int32)))) Ar561.1 (State.isArrayOf_alike hZ.alike Ar561.2.1) Ar561.2.2 (own_sin (n := 4) S561 (by simp only [List.length_map, si_len, sj_len, List.length_replicate, own_l4]) (by decide)) (own_sgetJ (n := 4) S561 (by simp only [List.length_map, si_len, sj_len, List.length_replicate, own_l4]) (by decide)) (g := (mkF m 177 #[jv p0, sv, jv p1, sv, jv p2, sv, jv p3, sv, iv p4, iv (1 : Int32), iv (1 : Int32), iv fA, iv fC, rv b542, rv b547, jv ea, sv, jv (0 : Int64), sv, uv] [(.int (2 : Int32)), (.ref b542)])) rfl rfl (hb hby at_177) _) ?_
      refine OGets.step (fun _ => XS.lload X553.here hx rfl (hb hby at_178) rfl) ?_
      refine OGets.step (fun _ => XS.lcmp X553.here hx rfl (hb hby at_180) rfl) ?_
      refine OGets.step (fun _ => XS.ifNo X553.here hx rfl (hb hby at_181) rfl ((if0 _ _).trans (teq ((lw_eq _ _).mpr (rfl : (gj [p0, p1, p2, p3] (2 : Int32)) = p2))).2)) ?_
      show OGets p e below _ (T553.setTop (mkF m 184 #[jv p0, sv, jv p1, sv, jv p2, sv, jv p3, sv, iv p4, iv (1 : Int32), iv (1 : Int32), iv fA, iv fC, rv b542, rv b547, jv ea, sv, jv (0 : Int64), sv, uv] []))
      refine OGets.step (fun _ => XS.aload X553.here hx rfl (hb hby at_184) rfl rfl) ?_
      refine OGets.step (fun _ => XS.iconst X553.here hx rfl (hb hby at_186)) ?_
      obtain ⟨cl563, Ar563, S563⟩ := V553v.arr 2 rfl
      refine OGets.step (fun _ => X553.laload hx (j := (3 : Int32)) (v := (.long (gj [p0, p1, p2, p3] (3 : Int32)))) Ar563.1 (State.isArrayOf_alike hZ.alike Ar563.2.1) Ar563.2.2 (own_sin (n := 4) S563 (by simp only [List.length_map, si_len, sj_len, List.length_replicate, own_l4]) (by decide)) (own_sgetJ (n := 4) S563 (by simp only [List.length_map, si_len, sj_len, List.length_replicate, own_l4]) (by decide)) (g := (mkF m 187 #[jv p0, sv, jv p1, sv, jv p2, sv, jv p3, sv, iv p4, iv (1 : Int32), iv (1 : Int32), iv fA, iv fC, rv b542, rv b547, jv ea, sv, jv (0 : Int64), sv, uv] [(.int (3 : Int32)), (.ref b542)])) rfl rfl (hb hby at_187) _) ?_
      refine OGets.step (fun _ => XS.lload X553.here hx rfl (hb hby at_188) rfl) ?_
      refine OGets.step (fun _ => XS.lcmp X553.here hx rfl (hb hby at_190) rfl) ?_
      refine OGets.step (fun _ => XS.ifNo X553.here hx rfl (hb hby at_191) rfl ((if0 _ _).trans (teq ((lw_eq _ _).mpr (rfl : (gj [p0, p1, p2, p3] (3 : Int32)) = p3))).2)) ?_
      show OGets p e below _ (T553.setTop (mkF m 194 #[jv p0, sv, jv p1, sv, jv p2, sv, jv p3, sv, iv p4, iv (1 : Int32), iv (1 : Int32), iv fA, iv fC, rv b542, rv b547, jv ea, sv, jv (0 : Int64), sv, uv] []))
      refine OGets.step (fun _ => XS.iconst X553.here hx rfl (hb hby at_194)) ?_
      refine OGets.step (fun _ => XS.goto X553.here hx rfl (pc0 := 195) (pc' := 199) rfl (hb hby at_195) (by decide) (by decide)) ?_
      refine OGets.step (fun _ => XS.istore X553.here hx rfl (hb hby at_199) rfl (l' := #[jv p0, sv, jv p1, sv, jv p2, sv, jv p3, sv, iv p4, iv (1 : Int32), iv (1 : Int32), iv fA, iv fC, rv b542, rv b547, jv ea, sv, jv (0 : Int64), sv, iv (1 : Int32)]) rfl) ?_
      refine OGets.step (fun _ => XS.iload X553.here hx rfl (hb hby at_201) rfl) ?_
      refine OGets.step (fun _ => XS.ifNo X553.here hx rfl (hb hby at_203) rfl ((if0 _ _).trans (feq (by decide : ¬ ((1 : Int32) = (0 : Int32)))).1)) ?_
      have hx0 : (gj Gc (1 : Int32)) = ea := by rw [← hea, hGc, hGb, hGa]; exact own_or3 [p0, p1, p2, p3] fA fC
      by_cases hk0 : ea = (0 : Int64)
      · show OGets p e below _ (T553.setTop (mkF m 206 #[jv p0, sv, jv p1, sv, jv p2, sv, jv p3, sv, iv p4, iv (1 : Int32), iv (1 : Int32), iv fA, iv fC, rv b542, rv b547, jv ea, sv, jv (0 : Int64), sv, iv (1 : Int32)] []))
        refine OGets.step (fun _ => XS.aload X553.here hx rfl (hb hby at_206) rfl rfl) ?_
        refine OGets.step (fun _ => XS.iload X553.here hx rfl (hb hby at_208) rfl) ?_
        obtain ⟨cq566, kq566, q566a, q566b, q566c⟩ := isOf hZ rfl (V553v.exa 0 rfl)
        obtain ⟨_, _, ⟨T566, L566, k566, n566⟩, -, X566, ⟨Lc566, hQ566, l566, y566, z566⟩, st566⟩ := X553.virtualBack hx (y := (⟨"com/example/inya/inya/SearchPath", "gathered", "(I)Ljava/util/BitSet;"⟩ : MethodName)) (z := (⟨"com/example/inya/inya/SearchPath", "gathered", "(I)Ljava/util/BitSet;"⟩ : MethodName)) hown (mvT hZ (ow hw 48 rfl)) (mvT hZ (ow hw 49 rfl)) (notFace_of_selects (args := #[]) (mvT hZ (ow hw 51 rfl))) (mvT hZ (ow hw 51 rfl)) (mvT hZ (ow hw 50 rfl)) (by decide) (backOf (W := 0) (rm_gtd110 l Z a0 hw [] b547 ap548 as548 aq548 ax548 ak548 ag548 ab548 Gc T553.heap n0 _ Z553 SA lGc (by rw [hx0]; exact hk0) V553v O553q) hZ (ow hw 52 rfl) (ow hw 3 rfl) (by decide) (by decide)) q566a q566c (g := (mkF m 210 #[jv p0, sv, jv p1, sv, jv p2, sv, jv p3, sv, iv p4, iv (1 : Int32), iv (1 : Int32), iv fA, iv fC, rv b542, rv b547, jv ea, sv, jv (0 : Int64), sv, iv (1 : Int32)] [(.int (1 : Int32)), (.ref b547)])) rfl (by rw [hml]; rfl) (Steps.refl _) (argsL := [(.int (1 : Int32))]) (rest := []) (lenOf pd_15 rfl) rfl (by show 2 * 0 + _ ≤ _; exact Nat.le_of_eq rfl) (hb hby at_210) (fun _ _ => ⟨rfl, rfl, Nat.le_of_ble_eq_true rfl, Nat.le_of_ble_eq_true rfl⟩)
        dsimp only [Pt.U, Pt.locs, Pt.cells, Pt.slots] at X566 l566 y566 z566 st566 hQ566
        rw [l566, y566, z566] at X566
        obtain ⟨u566, f566, rfl, N566q, V566, O566q⟩ := hQ566
        have N566 := Fr.app N553 N566q
        have V566v : OView Z n0 T566.heap (oS u566 [(.int (0 : Int32)), (.int (0 : Int32)), (.ref f566)] :: oB f566 [] :: oP b547 [(.ref ap548), (.ref as548), (.ref aq548), (.ref ax548), (.ref ak548), (.int (1 : Int32)), (.ref ag548), (.ref ab548), (.int (2 : Int32))] :: oB ag548 Gc :: oB b542 [p0, p1, p2, p3] :: []) := V566
        have Z566 : n0 ≤ T566.heap.size := V566v.big 0 rfl
        refine OGets.after st566 ?_
        obtain ⟨cq567, kq567, q567a, q567b, q567c⟩ := isOf hZ rfl (V566v.exa 0 rfl)
        obtain ⟨_, _, ⟨T567, L567, k567, n567⟩, -, X567, ⟨Lc567, hQ567, l567, y567, z567⟩, st567⟩ := X566.virtualBack hx (y := (⟨"java/util/BitSet", "toLongArray", "()[J"⟩ : MethodName)) (z := (⟨"java/util/BitSet", "toLongArray", "()[J"⟩ : MethodName)) hown (mvT hZ (ow hw 105 rfl)) (mvT hZ (ow hw 106 rfl)) (notFace_of_selects (args := #[]) (mvT hZ (ow hw 108 rfl))) (mvT hZ (ow hw 108 rfl)) (mvT hZ (ow hw 107 rfl)) (by decide) (backOf (W := 0) (rm_tla0 l Z a0 hw [] u566 f566 T566.heap n0 _ Z566  V566v O566q) hZ (ow hw 109 rfl) (ow hw 72 rfl) (by decide) (by decide)) q567a q567c (g := (mkF m 213 #[jv p0, sv, jv p1, sv, jv p2, sv, jv p3, sv, iv p4, iv (1 : Int32), iv (1 : Int32), iv fA, iv fC, rv b542, rv b547, jv ea, sv, jv (0 : Int64), sv, iv (1 : Int32)] [(.ref u566)])) rfl (by rw [hml]; rfl) (Steps.refl _) (argsL := []) (rest := []) (lenOf pd_16 rfl) rfl (by show 2 * 0 + _ ≤ _; exact Nat.le_of_eq rfl) (hb hby at_213) (fun _ _ => ⟨rfl, rfl, Nat.le_of_ble_eq_true rfl, Nat.le_of_ble_eq_true rfl⟩)
        dsimp only [Pt.U, Pt.locs, Pt.cells, Pt.slots] at X567 l567 y567 z567 st567 hQ567
        rw [l567, y567, z567] at X567
        obtain ⟨e567, rfl, N567q, V567, O567q⟩ := hQ567
        have N567 := Fr.app N566 N567q
        have V567v : OView Z n0 T567.heap (oB e567 [] :: oS u566 [(.int (0 : Int32)), (.int (0 : Int32)), (.ref f566)] :: oB f566 [] :: oP b547 [(.ref ap548), (.ref as548), (.ref aq548), (.ref ax548), (.ref ak548), (.int (1 : Int32)), (.ref ag548), (.ref ab548), (.int (2 : Int32))] :: oB ag548 Gc :: oB b542 [p0, p1, p2, p3] :: []) := V567
        have Z567 : n0 ≤ T567.heap.size := V567v.big 0 rfl
        refine OGets.after st567 ?_
        refine OGets.step (fun _ => XS.lload X567.here hx rfl (hb hby at_216) rfl) ?_
        refine OGets.step (fun _ => XS.lload X567.here hx rfl (hb hby at_218) rfl) ?_
        obtain ⟨_, _, ⟨T568, L568, k568, n568⟩, -, X568, ⟨Lc568, hQ568, l568, y568, z568⟩, st568⟩ := Jvm.LawKit.callS X567 hx (y := (⟨"com/example/inya/inya/SearchPathGatherPinLaw", "matches", "([JJJ)Z"⟩ : MethodName)) hown (mvT hZ (ow hw 110 rfl)) (mvT hZ (ow hw 111 rfl)) (mvT hZ (ow hw 112 rfl)) (mvT hZ (ow hw 113 rfl)) (by decide) (backOf (W := 0) (rm_mt0 l Z a0 hw [] e567 ea (0 : Int64) T567.heap n0 _ Z567 rfl hk0 V567v) hZ (ow hw 113 rfl) (ow hw 112 rfl) (by decide) (by decide)) (g := (mkF m 220 #[jv p0, sv, jv p1, sv, jv p2, sv, jv p3, sv, iv p4, iv (1 : Int32), iv (1 : Int32), iv fA, iv fC, rv b542, rv b547, jv ea, sv, jv (0 : Int64), sv, iv (1 : Int32)] [(.long (0 : Int64)), (.long ea), (.ref e567)])) rfl (by rw [hml]; rfl) (argsL := [(.ref e567), (.long ea), (.long (0 : Int64))]) (rest := []) (lenOf pd_17 rfl) rfl (by show 2 * 0 + _ ≤ _; exact Nat.le_of_eq rfl) (hb hby at_220) (fun _ _ => ⟨rfl, rfl, Nat.le_of_ble_eq_true rfl, Nat.le_of_ble_eq_true rfl⟩)
        dsimp only [Pt.U, Pt.locs, Pt.cells, Pt.slots] at X568 l568 y568 z568 st568 hQ568
        rw [l568, y568, z568] at X568
        obtain ⟨rfl, rfl, e568⟩ := hQ568
        have N568 := Fr.app N567 (Fr.nil n0)
        refine OGets.step st568 ?_
        refine OGets.step (fun _ => XS.ifNo X568.here hx rfl (hb hby at_223) rfl ((if0 _ _).trans (feq (by decide : ¬ ((1 : Int32) = (0 : Int32)))).1)) ?_
        refine OGets.step (fun _ => XS.aload X568.here hx rfl (hb hby at_226) rfl rfl) ?_
        refine OGets.step (fun _ => XS.iconst X568.here hx rfl (hb hby at_228)) ?_
        refine OGets.step (fun _ => XS.iload X568.here hx rfl (hb hby at_229) rfl) ?_
        refine OGets.step (fun _ => XS.isub X568.here hx rfl (hb hby at_231) rfl) ?_
        show OGets p e below _ (T568.setTop (mkF m 232 #[jv p0, sv, jv p1, sv, jv p2, sv, jv p3, sv, iv p4, iv (1 : Int32), iv (1 : Int32), iv fA, iv fC, rv b542, rv b547, jv ea, sv, jv (0 : Int64), sv, iv (1 : Int32)] [(.int (0 : Int32)), (.ref b547)]))
        have V570_ : OView Z _ T567.heap (oP b547 [(.ref ap548), (.ref as548), (.ref aq548), (.ref ax548), (.ref ak548), (.int (1 : Int32)), (.ref ag548), (.ref ab548), (.int (2 : Int32))] :: oB ag548 Gc :: oB e567 [] :: oS u566 [(.int (0 : Int32)), (.int (0 : Int32)), (.ref f566)] :: oB f566 [] :: oB b542 [p0, p1, p2, p3] :: []) := ((V567v.bring 4 rfl).bring 4 rfl)
        obtain ⟨cq570, kq570, q570a, q570b, q570c⟩ := isOf hZ e568 (V570_.exa 0 rfl)
        obtain ⟨_, _, ⟨T570, L570, k570, n570⟩, -, X570, ⟨Lc570, hQ570, l570, y570, z570⟩, st570⟩ := X568.virtualBack hx (y := (⟨"com/example/inya/inya/SearchPath", "gathered", "(I)Ljava/util/BitSet;"⟩ : MethodName)) (z := (⟨"com/example/inya/inya/SearchPath", "gathered", "(I)Ljava/util/BitSet;"⟩ : MethodName)) hown (mvT hZ (ow hw 48 rfl)) (mvT hZ (ow hw 49 rfl)) (notFace_of_selects (args := #[]) (mvT hZ (ow hw 51 rfl))) (mvT hZ (ow hw 51 rfl)) (mvT hZ (ow hw 50 rfl)) (by decide) (backOf (W := 0) (rm_gtd100 l Z a0 hw [] b547 ap548 as548 aq548 ax548 ak548 ag548 ab548 Gc T567.heap n0 _ Z567 SA lGc (by rw [hGc, hGb, hGa]; rfl) V570_ O567q) hZ (ow hw 52 rfl) (ow hw 3 rfl) (by decide) (by decide)) q570a q570c (g := (mkF m 232 #[jv p0, sv, jv p1, sv, jv p2, sv, jv p3, sv, iv p4, iv (1 : Int32), iv (1 : Int32), iv fA, iv fC, rv b542, rv b547, jv ea, sv, jv (0 : Int64), sv, iv (1 : Int32)] [(.int (0 : Int32)), (.ref b547)])) rfl (by rw [hml]; rfl) (Steps.refl _) (argsL := [(.int (0 : Int32))]) (rest := []) (lenOf pd_15 rfl) rfl (by show 2 * 0 + _ ≤ _; exact Nat.le_of_eq rfl) (hb hby at_232) (fun _ _ => ⟨rfl, e568, Nat.le_of_ble_eq_true rfl, Nat.le_of_ble_eq_true rfl⟩)
        dsimp only [Pt.U, Pt.locs, Pt.cells, Pt.slots] at X570 l570 y570 z570 st570 hQ570
        rw [l570, y570, z570] at X570
        obtain ⟨u570, f570, rfl, N570q, V570, O570q⟩ := hQ570
        have N570 := Fr.app N568 N570q
        have V570v : OView Z n0 T570.heap (oS u570 [(.int (0 : Int32)), (.int (0 : Int32)), (.ref f570)] :: oB f570 [] :: oP b547 [(.ref ap548), (.ref as548), (.ref aq548), (.ref ax548), (.ref ak548), (.int (1 : Int32)), (.ref ag548), (.ref ab548), (.int (2 : Int32))] :: oB ag548 Gc :: oB e567 [] :: oS u566 [(.int (0 : Int32)), (.int (0 : Int32)), (.ref f566)] :: oB f566 [] :: oB b542 [p0, p1, p2, p3] :: []) := V570
        have Z570 : n0 ≤ T570.heap.size := V570v.big 0 rfl
        refine OGets.after st570 ?_
        obtain ⟨cq571, kq571, q571a, q571b, q571c⟩ := isOf hZ rfl (V570v.exa 0 rfl)
        obtain ⟨_, _, ⟨T571, L571, k571, n571⟩, -, X571, ⟨Lc571, hQ571, l571, y571, z571⟩, st571⟩ := X570.virtualBack hx (y := (⟨"java/util/BitSet", "toLongArray", "()[J"⟩ : MethodName)) (z := (⟨"java/util/BitSet", "toLongArray", "()[J"⟩ : MethodName)) hown (mvT hZ (ow hw 105 rfl)) (mvT hZ (ow hw 106 rfl)) (notFace_of_selects (args := #[]) (mvT hZ (ow hw 108 rfl))) (mvT hZ (ow hw 108 rfl)) (mvT hZ (ow hw 107 rfl)) (by decide) (backOf (W := 0) (rm_tla0 l Z a0 hw [] u570 f570 T570.heap n0 _ Z570  V570v O570q) hZ (ow hw 109 rfl) (ow hw 72 rfl) (by decide) (by decide)) q571a q571c (g := (mkF m 235 #[jv p0, sv, jv p1, sv, jv p2, sv, jv p3, sv, iv p4, iv (1 : Int32), iv (1 : Int32), iv fA, iv fC, rv b542, rv b547, jv ea, sv, jv (0 : Int64), sv, iv (1 : Int32)] [(.ref u570)])) rfl (by rw [hml]; rfl) (Steps.refl _) (argsL := []) (rest := []) (lenOf pd_16 rfl) rfl (by show 2 * 0 + _ ≤ _; exact Nat.le_of_eq rfl) (hb hby at_235) (fun _ _ => ⟨rfl, rfl, Nat.le_of_ble_eq_true rfl, Nat.le_of_ble_eq_true rfl⟩)
        dsimp only [Pt.U, Pt.locs, Pt.cells, Pt.slots] at X571 l571 y571 z571 st571 hQ571
        rw [l571, y571, z571] at X571
        obtain ⟨e571, rfl, N571q, V571, O571q⟩ := hQ571
        have N571 := Fr.app N570 N571q
        have V571v : OView Z n0 T571.heap (oB e571 [] :: oS u570 [(.int (0 : Int32)), (.int (0 : Int32)), (.ref f570)] :: oB f570 [] :: oP b547 [(.ref ap548), (.ref as548), (.ref aq548), (.ref ax548), (.ref ak548), (.int (1 : Int32)), (.ref ag548), (.ref ab548), (.int (2 : Int32))] :: oB ag548 Gc :: oB e567 [] :: oS u566 [(.int (0 : Int32)), (.int (0 : Int32)), (.ref f566)] :: oB f566 [] :: oB b542 [p0, p1, p2, p3] :: []) := V571
        have Z571 : n0 ≤ T571.heap.size := V571v.big 0 rfl
        refine OGets.after st571 ?_
        refine OGets.step (fun _ => XS.lconst X571.here hx rfl (hb hby at_238)) ?_
        refine OGets.step (fun _ => XS.lconst X571.here hx rfl (hb hby at_239)) ?_
        obtain ⟨_, _, ⟨T572, L572, k572, n572⟩, -, X572, ⟨Lc572, hQ572, l572, y572, z572⟩, st572⟩ := Jvm.LawKit.callS X571 hx (y := (⟨"com/example/inya/inya/SearchPathGatherPinLaw", "matches", "([JJJ)Z"⟩ : MethodName)) hown (mvT hZ (ow hw 110 rfl)) (mvT hZ (ow hw 111 rfl)) (mvT hZ (ow hw 112 rfl)) (mvT hZ (ow hw 113 rfl)) (by decide) (backOf (W := 0) (rm_mt0 l Z a0 hw [] e571 (0 : Int64) (0 : Int64) T571.heap n0 _ Z571 rfl rfl V571v) hZ (ow hw 113 rfl) (ow hw 112 rfl) (by decide) (by decide)) (g := (mkF m 240 #[jv p0, sv, jv p1, sv, jv p2, sv, jv p3, sv, iv p4, iv (1 : Int32), iv (1 : Int32), iv fA, iv fC, rv b542, rv b547, jv ea, sv, jv (0 : Int64), sv, iv (1 : Int32)] [(.long (0 : Int64)), (.long (0 : Int64)), (.ref e571)])) rfl (by rw [hml]; rfl) (argsL := [(.ref e571), (.long (0 : Int64)), (.long (0 : Int64))]) (rest := []) (lenOf pd_17 rfl) rfl (by show 2 * 0 + _ ≤ _; exact Nat.le_of_eq rfl) (hb hby at_240) (fun _ _ => ⟨rfl, rfl, Nat.le_of_ble_eq_true rfl, Nat.le_of_ble_eq_true rfl⟩)
        dsimp only [Pt.U, Pt.locs, Pt.cells, Pt.slots] at X572 l572 y572 z572 st572 hQ572
        rw [l572, y572, z572] at X572
        obtain ⟨rfl, rfl, e572⟩ := hQ572
        have N572 := Fr.app N571 (Fr.nil n0)
        refine OGets.step st572 ?_
        refine OGets.step (fun _ => XS.ifNo X572.here hx rfl (hb hby at_243) rfl ((if0 _ _).trans (feq (by decide : ¬ ((1 : Int32) = (0 : Int32)))).1)) ?_
        refine OGets.step (fun _ => XS.iconst X572.here hx rfl (hb hby at_246)) ?_
        refine OGets.step (fun _ => XS.goto X572.here hx rfl (pc0 := 247) (pc' := 251) rfl (hb hby at_247) (by decide) (by decide)) ?_
        refine OGets.retN X572 hx hlk (t := .boolean) Bd.returns (by simp) (hb hby at_251) (Nat.le_of_ble_eq_true rfl) (Nat.le_of_ble_eq_true rfl) ?_
        exact ⟨rfl, N572⟩
      · show OGets p e below _ (T553.setTop (mkF m 206 #[jv p0, sv, jv p1, sv, jv p2, sv, jv p3, sv, iv p4, iv (1 : Int32), iv (1 : Int32), iv fA, iv fC, rv b542, rv b547, jv ea, sv, jv (0 : Int64), sv, iv (1 : Int32)] []))
        refine OGets.step (fun _ => XS.aload X553.here hx rfl (hb hby at_206) rfl rfl) ?_
        refine OGets.step (fun _ => XS.iload X553.here hx rfl (hb hby at_208) rfl) ?_
        obtain ⟨cq574, kq574, q574a, q574b, q574c⟩ := isOf hZ rfl (V553v.exa 0 rfl)
        obtain ⟨_, _, ⟨T574, L574, k574, n574⟩, -, X574, ⟨Lc574, hQ574, l574, y574, z574⟩, st574⟩ := X553.virtualBack hx (y := (⟨"com/example/inya/inya/SearchPath", "gathered", "(I)Ljava/util/BitSet;"⟩ : MethodName)) (z := (⟨"com/example/inya/inya/SearchPath", "gathered", "(I)Ljava/util/BitSet;"⟩ : MethodName)) hown (mvT hZ (ow hw 48 rfl)) (mvT hZ (ow hw 49 rfl)) (notFace_of_selects (args := #[]) (mvT hZ (ow hw 51 rfl))) (mvT hZ (ow hw 51 rfl)) (mvT hZ (ow hw 50 rfl)) (by decide) (backOf (W := 0) (rm_gtd111 l Z a0 hw [] b547 ap548 as548 aq548 ax548 ak548 ag548 ab548 Gc T553.heap n0 _ Z553 SA lGc (by rw [hx0]; exact hk0) V553v O553q) hZ (ow hw 52 rfl) (ow hw 3 rfl) (by decide) (by decide)) q574a q574c (g := (mkF m 210 #[jv p0, sv, jv p1, sv, jv p2, sv, jv p3, sv, iv p4, iv (1 : Int32), iv (1 : Int32), iv fA, iv fC, rv b542, rv b547, jv ea, sv, jv (0 : Int64), sv, iv (1 : Int32)] [(.int (1 : Int32)), (.ref b547)])) rfl (by rw [hml]; rfl) (Steps.refl _) (argsL := [(.int (1 : Int32))]) (rest := []) (lenOf pd_15 rfl) rfl (by show 2 * 0 + _ ≤ _; exact Nat.le_of_eq rfl) (hb hby at_210) (fun _ _ => ⟨rfl, rfl, Nat.le_of_ble_eq_true rfl, Nat.le_of_ble_eq_true rfl⟩)
        dsimp only [Pt.U, Pt.locs, Pt.cells, Pt.slots] at X574 l574 y574 z574 st574 hQ574
        rw [l574, y574, z574] at X574
        obtain ⟨u574, f574, rfl, N574q, V574, O574q⟩ := hQ574
        have N574 := Fr.app N553 N574q
        have V574v : OView Z n0 T574.heap (oS u574 [(.int (1 : Int32)), (.int (0 : Int32)), (.ref f574)] :: oB f574 [(gj Gc (1 : Int32))] :: oP b547 [(.ref ap548), (.ref as548), (.ref aq548), (.ref ax548), (.ref ak548), (.int (1 : Int32)), (.ref ag548), (.ref ab548), (.int (2 : Int32))] :: oB ag548 Gc :: oB b542 [p0, p1, p2, p3] :: []) := V574
        have Z574 : n0 ≤ T574.heap.size := V574v.big 0 rfl
        refine OGets.after st574 ?_
        obtain ⟨cq575, kq575, q575a, q575b, q575c⟩ := isOf hZ rfl (V574v.exa 0 rfl)
        obtain ⟨_, _, ⟨T575, L575, k575, n575⟩, -, X575, ⟨Lc575, hQ575, l575, y575, z575⟩, st575⟩ := X574.virtualBack hx (y := (⟨"java/util/BitSet", "toLongArray", "()[J"⟩ : MethodName)) (z := (⟨"java/util/BitSet", "toLongArray", "()[J"⟩ : MethodName)) hown (mvT hZ (ow hw 105 rfl)) (mvT hZ (ow hw 106 rfl)) (notFace_of_selects (args := #[]) (mvT hZ (ow hw 108 rfl))) (mvT hZ (ow hw 108 rfl)) (mvT hZ (ow hw 107 rfl)) (by decide) (backOf (W := 0) (rm_tla1 l Z a0 hw [] u574 f574 (gj Gc (1 : Int32)) T574.heap n0 _ Z574  V574v O574q) hZ (ow hw 109 rfl) (ow hw 72 rfl) (by decide) (by decide)) q575a q575c (g := (mkF m 213 #[jv p0, sv, jv p1, sv, jv p2, sv, jv p3, sv, iv p4, iv (1 : Int32), iv (1 : Int32), iv fA, iv fC, rv b542, rv b547, jv ea, sv, jv (0 : Int64), sv, iv (1 : Int32)] [(.ref u574)])) rfl (by rw [hml]; rfl) (Steps.refl _) (argsL := []) (rest := []) (lenOf pd_16 rfl) rfl (by show 2 * 0 + _ ≤ _; exact Nat.le_of_eq rfl) (hb hby at_213) (fun _ _ => ⟨rfl, rfl, Nat.le_of_ble_eq_true rfl, Nat.le_of_ble_eq_true rfl⟩)
        dsimp only [Pt.U, Pt.locs, Pt.cells, Pt.slots] at X575 l575 y575 z575 st575 hQ575
        rw [l575, y575, z575] at X575
        obtain ⟨e575, rfl, N575q, V575, O575q⟩ := hQ575
        have N575 := Fr.app N574 N575q
        have V575v : OView Z n0 T575.heap (oB e575 [(gj Gc (1 : Int32))] :: oS u574 [(.int (1 : Int32)), (.int (0 : Int32)), (.ref f574)] :: oB f574 [(gj Gc (1 : Int32))] :: oP b547 [(.ref ap548), (.ref as548), (.ref aq548), (.ref ax548), (.ref ak548), (.int (1 : Int32)), (.ref ag548), (.ref ab548), (.int (2 : Int32))] :: oB ag548 Gc :: oB b542 [p0, p1, p2, p3] :: []) := V575
        have Z575 : n0 ≤ T575.heap.size := V575v.big 0 rfl
        refine OGets.after st575 ?_
        refine OGets.step (fun _ => XS.lload X575.here hx rfl (hb hby at_216) rfl) ?_
        refine OGets.step (fun _ => XS.lload X575.here hx rfl (hb hby at_218) rfl) ?_
        obtain ⟨_, _, ⟨T576, L576, k576, n576⟩, -, X576, ⟨Lc576, hQ576, l576, y576, z576⟩, st576⟩ := Jvm.LawKit.callS X575 hx (y := (⟨"com/example/inya/inya/SearchPathGatherPinLaw", "matches", "([JJJ)Z"⟩ : MethodName)) hown (mvT hZ (ow hw 110 rfl)) (mvT hZ (ow hw 111 rfl)) (mvT hZ (ow hw 112 rfl)) (mvT hZ (ow hw 113 rfl)) (by decide) (backOf (W := 0) (rm_mt1 l Z a0 hw [] e575 ea (0 : Int64) (gj Gc (1 : Int32)) T575.heap n0 _ Z575 rfl hk0 hx0 V575v) hZ (ow hw 113 rfl) (ow hw 112 rfl) (by decide) (by decide)) (g := (mkF m 220 #[jv p0, sv, jv p1, sv, jv p2, sv, jv p3, sv, iv p4, iv (1 : Int32), iv (1 : Int32), iv fA, iv fC, rv b542, rv b547, jv ea, sv, jv (0 : Int64), sv, iv (1 : Int32)] [(.long (0 : Int64)), (.long ea), (.ref e575)])) rfl (by rw [hml]; rfl) (argsL := [(.ref e575), (.long ea), (.long (0 : Int64))]) (rest := []) (lenOf pd_17 rfl) rfl (by show 2 * 0 + _ ≤ _; exact Nat.le_of_eq rfl) (hb hby at_220) (fun _ _ => ⟨rfl, rfl, Nat.le_of_ble_eq_true rfl, Nat.le_of_ble_eq_true rfl⟩)
        dsimp only [Pt.U, Pt.locs, Pt.cells, Pt.slots] at X576 l576 y576 z576 st576 hQ576
        rw [l576, y576, z576] at X576
        obtain ⟨rfl, rfl, e576⟩ := hQ576
        have N576 := Fr.app N575 (Fr.nil n0)
        refine OGets.step st576 ?_
        refine OGets.step (fun _ => XS.ifNo X576.here hx rfl (hb hby at_223) rfl ((if0 _ _).trans (feq (by decide : ¬ ((1 : Int32) = (0 : Int32)))).1)) ?_
        refine OGets.step (fun _ => XS.aload X576.here hx rfl (hb hby at_226) rfl rfl) ?_
        refine OGets.step (fun _ => XS.iconst X576.here hx rfl (hb hby at_228)) ?_
        refine OGets.step (fun _ => XS.iload X576.here hx rfl (hb hby at_229) rfl) ?_
        refine OGets.step (fun _ => XS.isub X576.here hx rfl (hb hby at_231) rfl) ?_
        show OGets p e below _ (T576.setTop (mkF m 232 #[jv p0, sv, jv p1, sv, jv p2, sv, jv p3, sv, iv p4, iv (1 : Int32), iv (1 : Int32), iv fA, iv fC, rv b542, rv b547, jv ea, sv, jv (0 : Int64), sv, iv (1 : Int32)] [(.int (0 : Int32)), (.ref b547)]))
        have V578_ : OView Z _ T575.heap (oP b547 [(.ref ap548), (.ref as548), (.ref aq548), (.ref ax548), (.ref ak548), (.int (1 : Int32)), (.ref ag548), (.ref ab548), (.int (2 : Int32))] :: oB ag548 Gc :: oB e575 [(gj Gc (1 : Int32))] :: oS u574 [(.int (1 : Int32)), (.int (0 : Int32)), (.ref f574)] :: oB f574 [(gj Gc (1 : Int32))] :: oB b542 [p0, p1, p2, p3] :: []) := ((V575v.bring 4 rfl).bring 4 rfl)
        obtain ⟨cq578, kq578, q578a, q578b, q578c⟩ := isOf hZ e576 (V578_.exa 0 rfl)
        obtain ⟨_, _, ⟨T578, L578, k578, n578⟩, -, X578, ⟨Lc578, hQ578, l578, y578, z578⟩, st578⟩ := X576.virtualBack hx (y := (⟨"com/example/inya/inya/SearchPath", "gathered", "(I)Ljava/util/BitSet;"⟩ : MethodName)) (z := (⟨"com/example/inya/inya/SearchPath", "gathered", "(I)Ljava/util/BitSet;"⟩ : MethodName)) hown (mvT hZ (ow hw 48 rfl)) (mvT hZ (ow hw 49 rfl)) (notFace_of_selects (args := #[]) (mvT hZ (ow hw 51 rfl))) (mvT hZ (ow hw 51 rfl)) (mvT hZ (ow hw 50 rfl)) (by decide) (backOf (W := 0) (rm_gtd100 l Z a0 hw [] b547 ap548 as548 aq548 ax548 ak548 ag548 ab548 Gc T575.heap n0 _ Z575 SA lGc (by rw [hGc, hGb, hGa]; rfl) V578_ O575q) hZ (ow hw 52 rfl) (ow hw 3 rfl) (by decide) (by decide)) q578a q578c (g := (mkF m 232 #[jv p0, sv, jv p1, sv, jv p2, sv, jv p3, sv, iv p4, iv (1 : Int32), iv (1 : Int32), iv fA, iv fC, rv b542, rv b547, jv ea, sv, jv (0 : Int64), sv, iv (1 : Int32)] [(.int (0 : Int32)), (.ref b547)])) rfl (by rw [hml]; rfl) (Steps.refl _) (argsL := [(.int (0 : Int32))]) (rest := []) (lenOf pd_15 rfl) rfl (by show 2 * 0 + _ ≤ _; exact Nat.le_of_eq rfl) (hb hby at_232) (fun _ _ => ⟨rfl, e576, Nat.le_of_ble_eq_true rfl, Nat.le_of_ble_eq_true rfl⟩)
        dsimp only [Pt.U, Pt.locs, Pt.cells, Pt.slots] at X578 l578 y578 z578 st578 hQ578
        rw [l578, y578, z578] at X578
        obtain ⟨u578, f578, rfl, N578q, V578, O578q⟩ := hQ578
        have N578 := Fr.app N576 N578q
        have V578v : OView Z n0 T578.heap (oS u578 [(.int (0 : Int32)), (.int (0 : Int32)), (.ref f578)] :: oB f578 [] :: oP b547 [(.ref ap548), (.ref as548), (.ref aq548), (.ref ax548), (.ref ak548), (.int (1 : Int32)), (.ref ag548), (.ref ab548), (.int (2 : Int32))] :: oB ag548 Gc :: oB e575 [(gj Gc (1 : Int32))] :: oS u574 [(.int (1 : Int32)), (.int (0 : Int32)), (.ref f574)] :: oB f574 [(gj Gc (1 : Int32))] :: oB b542 [p0, p1, p2, p3] :: []) := V578
        have Z578 : n0 ≤ T578.heap.size := V578v.big 0 rfl
        refine OGets.after st578 ?_
        obtain ⟨cq579, kq579, q579a, q579b, q579c⟩ := isOf hZ rfl (V578v.exa 0 rfl)
        obtain ⟨_, _, ⟨T579, L579, k579, n579⟩, -, X579, ⟨Lc579, hQ579, l579, y579, z579⟩, st579⟩ := X578.virtualBack hx (y := (⟨"java/util/BitSet", "toLongArray", "()[J"⟩ : MethodName)) (z := (⟨"java/util/BitSet", "toLongArray", "()[J"⟩ : MethodName)) hown (mvT hZ (ow hw 105 rfl)) (mvT hZ (ow hw 106 rfl)) (notFace_of_selects (args := #[]) (mvT hZ (ow hw 108 rfl))) (mvT hZ (ow hw 108 rfl)) (mvT hZ (ow hw 107 rfl)) (by decide) (backOf (W := 0) (rm_tla0 l Z a0 hw [] u578 f578 T578.heap n0 _ Z578  V578v O578q) hZ (ow hw 109 rfl) (ow hw 72 rfl) (by decide) (by decide)) q579a q579c (g := (mkF m 235 #[jv p0, sv, jv p1, sv, jv p2, sv, jv p3, sv, iv p4, iv (1 : Int32), iv (1 : Int32), iv fA, iv fC, rv b542, rv b547, jv ea, sv, jv (0 : Int64), sv, iv (1 : Int32)] [(.ref u578)])) rfl (by rw [hml]; rfl) (Steps.refl _) (argsL := []) (rest := []) (lenOf pd_16 rfl) rfl (by show 2 * 0 + _ ≤ _; exact Nat.le_of_eq rfl) (hb hby at_235) (fun _ _ => ⟨rfl, rfl, Nat.le_of_ble_eq_true rfl, Nat.le_of_ble_eq_true rfl⟩)
        dsimp only [Pt.U, Pt.locs, Pt.cells, Pt.slots] at X579 l579 y579 z579 st579 hQ579
        rw [l579, y579, z579] at X579
        obtain ⟨e579, rfl, N579q, V579, O579q⟩ := hQ579
        have N579 := Fr.app N578 N579q
        have V579v : OView Z n0 T579.heap (oB e579 [] :: oS u578 [(.int (0 : Int32)), (.int (0 : Int32)), (.ref f578)] :: oB f578 [] :: oP b547 [(.ref ap548), (.ref as548), (.ref aq548), (.ref ax548), (.ref ak548), (.int (1 : Int32)), (.ref ag548), (.ref ab548), (.int (2 : Int32))] :: oB ag548 Gc :: oB e575 [(gj Gc (1 : Int32))] :: oS u574 [(.int (1 : Int32)), (.int (0 : Int32)), (.ref f574)] :: oB f574 [(gj Gc (1 : Int32))] :: oB b542 [p0, p1, p2, p3] :: []) := V579
        have Z579 : n0 ≤ T579.heap.size := V579v.big 0 rfl
        refine OGets.after st579 ?_
        refine OGets.step (fun _ => XS.lconst X579.here hx rfl (hb hby at_238)) ?_
        refine OGets.step (fun _ => XS.lconst X579.here hx rfl (hb hby at_239)) ?_
        obtain ⟨_, _, ⟨T580, L580, k580, n580⟩, -, X580, ⟨Lc580, hQ580, l580, y580, z580⟩, st580⟩ := Jvm.LawKit.callS X579 hx (y := (⟨"com/example/inya/inya/SearchPathGatherPinLaw", "matches", "([JJJ)Z"⟩ : MethodName)) hown (mvT hZ (ow hw 110 rfl)) (mvT hZ (ow hw 111 rfl)) (mvT hZ (ow hw 112 rfl)) (mvT hZ (ow hw 113 rfl)) (by decide) (backOf (W := 0) (rm_mt0 l Z a0 hw [] e579 (0 : Int64) (0 : Int64) T579.heap n0 _ Z579 rfl rfl V579v) hZ (ow hw 113 rfl) (ow hw 112 rfl) (by decide) (by decide)) (g := (mkF m 240 #[jv p0, sv, jv p1, sv, jv p2, sv, jv p3, sv, iv p4, iv (1 : Int32), iv (1 : Int32), iv fA, iv fC, rv b542, rv b547, jv ea, sv, jv (0 : Int64), sv, iv (1 : Int32)] [(.long (0 : Int64)), (.long (0 : Int64)), (.ref e579)])) rfl (by rw [hml]; rfl) (argsL := [(.ref e579), (.long (0 : Int64)), (.long (0 : Int64))]) (rest := []) (lenOf pd_17 rfl) rfl (by show 2 * 0 + _ ≤ _; exact Nat.le_of_eq rfl) (hb hby at_240) (fun _ _ => ⟨rfl, rfl, Nat.le_of_ble_eq_true rfl, Nat.le_of_ble_eq_true rfl⟩)
        dsimp only [Pt.U, Pt.locs, Pt.cells, Pt.slots] at X580 l580 y580 z580 st580 hQ580
        rw [l580, y580, z580] at X580
        obtain ⟨rfl, rfl, e580⟩ := hQ580
        have N580 := Fr.app N579 (Fr.nil n0)
        refine OGets.step st580 ?_
        refine OGets.step (fun _ => XS.ifNo X580.here hx rfl (hb hby at_243) rfl ((if0 _ _).trans (feq (by decide : ¬ ((1 : Int32) = (0 : Int32)))).1)) ?_
        refine OGets.step (fun _ => XS.iconst X580.here hx rfl (hb hby at_246)) ?_
        refine OGets.step (fun _ => XS.goto X580.here hx rfl (pc0 := 247) (pc' := 251) rfl (hb hby at_247) (by decide) (by decide)) ?_
        refine OGets.retN X580 hx hlk (t := .boolean) Bd.returns (by simp) (hb hby at_251) (Nat.le_of_ble_eq_true rfl) (Nat.le_of_ble_eq_true rfl) ?_
        exact ⟨rfl, N580⟩
  · rw [hwd]
    show OGets p e below _ (s₁.setTop (mkF m 8 #[jv p0, sv, jv p1, sv, jv p2, sv, jv p3, sv, iv p4, uv, uv, uv, uv, uv, uv, uv, uv, uv, uv, uv] [(.int (2 : Int32))]))
    refine OGets.step (fun _ => XS.istore X0.here hx rfl (hb hby at_8) rfl (l' := #[jv p0, sv, jv p1, sv, jv p2, sv, jv p3, sv, iv p4, iv (2 : Int32), uv, uv, uv, uv, uv, uv, uv, uv, uv, uv]) rfl) ?_
    refine OGets.step (fun _ => XS.iload X0.here hx rfl (hb hby at_10) rfl) ?_
    refine OGets.step (fun _ => XS.iconst X0.here hx rfl (hb hby at_12)) ?_
    refine OGets.step (fun _ => XS.iand X0.here hx rfl (hb hby at_13) rfl) ?_
    show OGets p e below _ (s₁.setTop (mkF m 14 #[jv p0, sv, jv p1, sv, jv p2, sv, jv p3, sv, iv p4, iv (2 : Int32), uv, uv, uv, uv, uv, uv, uv, uv, uv, uv] [(.int (p4 &&& (1 : Int32)))]))
    rcases own_pl p4 with hpl | hpl
    · rw [hpl]
      show OGets p e below _ (s₁.setTop (mkF m 14 #[jv p0, sv, jv p1, sv, jv p2, sv, jv p3, sv, iv p4, iv (2 : Int32), uv, uv, uv, uv, uv, uv, uv, uv, uv, uv] [(.int (0 : Int32))]))
      refine OGets.step (fun _ => XS.istore X0.here hx rfl (hb hby at_14) rfl (l' := #[jv p0, sv, jv p1, sv, jv p2, sv, jv p3, sv, iv p4, iv (2 : Int32), iv (0 : Int32), uv, uv, uv, uv, uv, uv, uv, uv, uv]) rfl) ?_
      refine OGets.step (fun _ => XS.iload X0.here hx rfl (hb hby at_16) rfl) ?_
      refine OGets.step (fun _ => XS.iconst X0.here hx rfl (hb hby at_18)) ?_
      refine OGets.step (fun _ => XS.iushr X0.here hx rfl (hb hby at_19) rfl) ?_
      refine OGets.step (fun _ => XS.sipush X0.here hx rfl (hb hby at_20)) ?_
      refine OGets.step (fun _ => XS.iand X0.here hx rfl (hb hby at_23) rfl) ?_
      show OGets p e below _ (s₁.setTop (mkF m 24 #[jv p0, sv, jv p1, sv, jv p2, sv, jv p3, sv, iv p4, iv (2 : Int32), iv (0 : Int32), uv, uv, uv, uv, uv, uv, uv, uv, uv] [(.int (((p4.toUInt32 >>> ((2 : Int32) &&& 31).toUInt32).toInt32) &&& (32767 : Int32)))]))
      refine OGets.step (fun _ => XS.iconst X0.here hx rfl (hb hby at_24)) ?_
      refine OGets.step (fun _ => XS.iload X0.here hx rfl (hb hby at_25) rfl) ?_
      refine OGets.step (fun _ => XS.isub X0.here hx rfl (hb hby at_27) rfl) ?_
      show OGets p e below _ (s₁.setTop (mkF m 28 #[jv p0, sv, jv p1, sv, jv p2, sv, jv p3, sv, iv p4, iv (2 : Int32), iv (0 : Int32), uv, uv, uv, uv, uv, uv, uv, uv, uv] [(.int (3 : Int32)), (.int (((p4.toUInt32 >>> ((2 : Int32) &&& 31).toUInt32).toInt32) &&& (32767 : Int32)))]))
      refine OGets.step (fun _ => iremM (g := (mkF m 28 #[jv p0, sv, jv p1, sv, jv p2, sv, jv p3, sv, iv p4, iv (2 : Int32), iv (0 : Int32), uv, uv, uv, uv, uv, uv, uv, uv, uv] [(.int (3 : Int32)), (.int (((p4.toUInt32 >>> ((2 : Int32) &&& 31).toUInt32).toInt32) &&& (32767 : Int32)))])) X0 hx rfl (hb hby at_28) rfl (by decide)) ?_
      show OGets p e below _ (s₁.setTop (mkF m 29 #[jv p0, sv, jv p1, sv, jv p2, sv, jv p3, sv, iv p4, iv (2 : Int32), iv (0 : Int32), uv, uv, uv, uv, uv, uv, uv, uv, uv] [(.int ((((p4.toUInt32 >>> ((2 : Int32) &&& 31).toUInt32).toInt32) &&& (32767 : Int32)) % (3 : Int32)))]))
      have q_fA := own_o3 ((p4.toUInt32 >>> ((2 : Int32) &&& 31).toUInt32).toInt32)
      generalize ((((p4.toUInt32 >>> ((2 : Int32) &&& 31).toUInt32).toInt32) &&& (32767 : Int32)) % (3 : Int32)) = fA at q_fA ⊢
      show OGets p e below _ (s₁.setTop (mkF m 29 #[jv p0, sv, jv p1, sv, jv p2, sv, jv p3, sv, iv p4, iv (2 : Int32), iv (0 : Int32), uv, uv, uv, uv, uv, uv, uv, uv, uv] [(.int fA)]))
      refine OGets.step (fun _ => XS.istore X0.here hx rfl (hb hby at_29) rfl (l' := #[jv p0, sv, jv p1, sv, jv p2, sv, jv p3, sv, iv p4, iv (2 : Int32), iv (0 : Int32), iv fA, uv, uv, uv, uv, uv, uv, uv, uv]) rfl) ?_
      refine OGets.step (fun _ => XS.iload X0.here hx rfl (hb hby at_31) rfl) ?_
      refine OGets.step (fun _ => XS.bipush X0.here hx rfl (hb hby at_33)) ?_
      refine OGets.step (fun _ => XS.iushr X0.here hx rfl (hb hby at_35) rfl) ?_
      refine OGets.step (fun _ => XS.sipush X0.here hx rfl (hb hby at_36)) ?_
      refine OGets.step (fun _ => XS.iand X0.here hx rfl (hb hby at_39) rfl) ?_
      show OGets p e below _ (s₁.setTop (mkF m 40 #[jv p0, sv, jv p1, sv, jv p2, sv, jv p3, sv, iv p4, iv (2 : Int32), iv (0 : Int32), iv fA, uv, uv, uv, uv, uv, uv, uv, uv] [(.int (((p4.toUInt32 >>> ((17 : Int32) &&& 31).toUInt32).toInt32) &&& (32767 : Int32)))]))
      refine OGets.step (fun _ => XS.iconst X0.here hx rfl (hb hby at_40)) ?_
      refine OGets.step (fun _ => XS.iload X0.here hx rfl (hb hby at_41) rfl) ?_
      refine OGets.step (fun _ => XS.isub X0.here hx rfl (hb hby at_43) rfl) ?_
      show OGets p e below _ (s₁.setTop (mkF m 44 #[jv p0, sv, jv p1, sv, jv p2, sv, jv p3, sv, iv p4, iv (2 : Int32), iv (0 : Int32), iv fA, uv, uv, uv, uv, uv, uv, uv, uv] [(.int (3 : Int32)), (.int (((p4.toUInt32 >>> ((17 : Int32) &&& 31).toUInt32).toInt32) &&& (32767 : Int32)))]))
      refine OGets.step (fun _ => iremM (g := (mkF m 44 #[jv p0, sv, jv p1, sv, jv p2, sv, jv p3, sv, iv p4, iv (2 : Int32), iv (0 : Int32), iv fA, uv, uv, uv, uv, uv, uv, uv, uv] [(.int (3 : Int32)), (.int (((p4.toUInt32 >>> ((17 : Int32) &&& 31).toUInt32).toInt32) &&& (32767 : Int32)))])) X0 hx rfl (hb hby at_44) rfl (by decide)) ?_
      show OGets p e below _ (s₁.setTop (mkF m 45 #[jv p0, sv, jv p1, sv, jv p2, sv, jv p3, sv, iv p4, iv (2 : Int32), iv (0 : Int32), iv fA, uv, uv, uv, uv, uv, uv, uv, uv] [(.int ((((p4.toUInt32 >>> ((17 : Int32) &&& 31).toUInt32).toInt32) &&& (32767 : Int32)) % (3 : Int32)))]))
      have q_fC := own_o3 ((p4.toUInt32 >>> ((17 : Int32) &&& 31).toUInt32).toInt32)
      generalize ((((p4.toUInt32 >>> ((17 : Int32) &&& 31).toUInt32).toInt32) &&& (32767 : Int32)) % (3 : Int32)) = fC at q_fC ⊢
      show OGets p e below _ (s₁.setTop (mkF m 45 #[jv p0, sv, jv p1, sv, jv p2, sv, jv p3, sv, iv p4, iv (2 : Int32), iv (0 : Int32), iv fA, uv, uv, uv, uv, uv, uv, uv, uv] [(.int fC)]))
      refine OGets.step (fun _ => XS.istore X0.here hx rfl (hb hby at_45) rfl (l' := #[jv p0, sv, jv p1, sv, jv p2, sv, jv p3, sv, iv p4, iv (2 : Int32), iv (0 : Int32), iv fA, iv fC, uv, uv, uv, uv, uv, uv, uv]) rfl) ?_
      refine OGets.step (fun _ => XS.iconst X0.here hx rfl (hb hby at_47)) ?_
      obtain ⟨T582, h582, k582, X582, e582, E582, A582, Ex582, st582⟩ := newPE X0 hx hZ (ow hw 0 rfl) e0 (g := (mkF m 48 #[jv p0, sv, jv p1, sv, jv p2, sv, jv p3, sv, iv p4, iv (2 : Int32), iv (0 : Int32), iv fA, iv fC, uv, uv, uv, uv, uv, uv, uv] [(.int (4 : Int32))])) rfl (hb hby at_48) rfl (by decide) (cap := 4) (by decide) (by decide) (by decide) (by decide) (ad := "[J") (by decide +kernel)
      have V582' := V0.newArr Z0 E582 A582 4 rfl (fun _ => Ex582)
      have Z582 : n0 ≤ h582.size := Nat.le_trans Z0 E582.1
      obtain ⟨b582, g582⟩ : ∃ z, z = h0.size := ⟨_, rfl⟩
      rw [← g582] at V582' st582
      have V582 : OView Z n0 h582 (oB b582 [(0 : Int64), (0 : Int64), (0 : Int64), (0 : Int64)] :: []) := V582'
      have O582 := O0.ext E582
      refine OGets.step st582 ?_
      refine OGets.step (fun _ => XS.dup X582.here hx rfl (hb hby at_50) rfl rfl) ?_
      refine OGets.step (fun _ => XS.iconst X582.here hx rfl (hb hby at_51)) ?_
      refine OGets.step (fun _ => XS.lloadN X582.here hx rfl (hb hby at_52) rfl) ?_
      obtain ⟨cl583, Ar583, S583⟩ := V582.arr 0 rfl
      obtain ⟨T583, h583, X583, e583, W583', st583⟩ := stJ X582 hx hZ e582 Ar583 (j := (0 : Int32)) (own_inb S583 0 (by decide) (Nat.le_of_ble_eq_true rfl)) (g := (mkF m 53 #[jv p0, sv, jv p1, sv, jv p2, sv, jv p3, sv, iv p4, iv (2 : Int32), iv (0 : Int32), iv fA, iv fC, uv, uv, uv, uv, uv, uv, uv] [(.long p0), (.int (0 : Int32)), (.ref b582), (.ref b582)])) rfl rfl (hb hby at_53)
      have W583 := own_wr (vs := []) 0 (by decide) W583'
      have V583 : OView Z n0 h583 (oB b582 [p0, (0 : Int64), (0 : Int64), (0 : Int64)] :: []) := V582.putA 0 rfl W583
      have N583 := Fr.snoc X583 N0 (V582.old 0 rfl)
      have Z583 : n0 ≤ h583.size := by rw [W583.size]; exact Z582
      have O583 := O582.wr W583 (V582.old 0 rfl)
      refine OGets.step st583 ?_
      refine OGets.step (fun _ => XS.dup X583.here hx rfl (hb hby at_54) rfl rfl) ?_
      refine OGets.step (fun _ => XS.iconst X583.here hx rfl (hb hby at_55)) ?_
      refine OGets.step (fun _ => XS.lloadN X583.here hx rfl (hb hby at_56) rfl) ?_
      obtain ⟨cl584, Ar584, S584⟩ := V583.arr 0 rfl
      obtain ⟨T584, h584, X584, e584, W584', st584⟩ := stJ X583 hx hZ e583 Ar584 (j := (1 : Int32)) (own_inb S584 1 (by decide) (Nat.le_of_ble_eq_true rfl)) (g := (mkF m 57 #[jv p0, sv, jv p1, sv, jv p2, sv, jv p3, sv, iv p4, iv (2 : Int32), iv (0 : Int32), iv fA, iv fC, uv, uv, uv, uv, uv, uv, uv] [(.long p1), (.int (1 : Int32)), (.ref b582), (.ref b582)])) rfl rfl (hb hby at_57)
      have W584 := own_wr (vs := []) 1 (by decide) W584'
      have V584 : OView Z n0 h584 (oB b582 [p0, p1, (0 : Int64), (0 : Int64)] :: []) := V583.putA 0 rfl W584
      have N584 := Fr.snoc X584 N583 (V583.old 0 rfl)
      have Z584 : n0 ≤ h584.size := by rw [W584.size]; exact Z583
      have O584 := O583.wr W584 (V583.old 0 rfl)
      refine OGets.step st584 ?_
      refine OGets.step (fun _ => XS.dup X584.here hx rfl (hb hby at_58) rfl rfl) ?_
      refine OGets.step (fun _ => XS.iconst X584.here hx rfl (hb hby at_59)) ?_
      refine OGets.step (fun _ => XS.lload X584.here hx rfl (hb hby at_60) rfl) ?_
      obtain ⟨cl585, Ar585, S585⟩ := V584.arr 0 rfl
      obtain ⟨T585, h585, X585, e585, W585', st585⟩ := stJ X584 hx hZ e584 Ar585 (j := (2 : Int32)) (own_inb S585 2 (by decide) (Nat.le_of_ble_eq_true rfl)) (g := (mkF m 62 #[jv p0, sv, jv p1, sv, jv p2, sv, jv p3, sv, iv p4, iv (2 : Int32), iv (0 : Int32), iv fA, iv fC, uv, uv, uv, uv, uv, uv, uv] [(.long p2), (.int (2 : Int32)), (.ref b582), (.ref b582)])) rfl rfl (hb hby at_62)
      have W585 := own_wr (vs := []) 2 (by decide) W585'
      have V585 : OView Z n0 h585 (oB b582 [p0, p1, p2, (0 : Int64)] :: []) := V584.putA 0 rfl W585
      have N585 := Fr.snoc X585 N584 (V584.old 0 rfl)
      have Z585 : n0 ≤ h585.size := by rw [W585.size]; exact Z584
      have O585 := O584.wr W585 (V584.old 0 rfl)
      refine OGets.step st585 ?_
      refine OGets.step (fun _ => XS.dup X585.here hx rfl (hb hby at_63) rfl rfl) ?_
      refine OGets.step (fun _ => XS.iconst X585.here hx rfl (hb hby at_64)) ?_
      refine OGets.step (fun _ => XS.lload X585.here hx rfl (hb hby at_65) rfl) ?_
      obtain ⟨cl586, Ar586, S586⟩ := V585.arr 0 rfl
      obtain ⟨T586, h586, X586, e586, W586', st586⟩ := stJ X585 hx hZ e585 Ar586 (j := (3 : Int32)) (own_inb S586 3 (by decide) (Nat.le_of_ble_eq_true rfl)) (g := (mkF m 67 #[jv p0, sv, jv p1, sv, jv p2, sv, jv p3, sv, iv p4, iv (2 : Int32), iv (0 : Int32), iv fA, iv fC, uv, uv, uv, uv, uv, uv, uv] [(.long p3), (.int (3 : Int32)), (.ref b582), (.ref b582)])) rfl rfl (hb hby at_67)
      have W586 := own_wr (vs := []) 3 (by decide) W586'
      have V586 : OView Z n0 h586 (oB b582 [p0, p1, p2, p3] :: []) := V585.putA 0 rfl W586
      have N586 := Fr.snoc X586 N585 (V585.old 0 rfl)
      have Z586 : n0 ≤ h586.size := by rw [W586.size]; exact Z585
      have O586 := O585.wr W586 (V585.old 0 rfl)
      refine OGets.step st586 ?_
      show OGets p e below _ (T586.setTop (mkF m 68 #[jv p0, sv, jv p1, sv, jv p2, sv, jv p3, sv, iv p4, iv (2 : Int32), iv (0 : Int32), iv fA, iv fC, uv, uv, uv, uv, uv, uv, uv] [(.ref b582)]))
      refine OGets.step (fun _ => XS.astore X586.here hx rfl (hb hby at_68) rfl rfl (l' := #[jv p0, sv, jv p1, sv, jv p2, sv, jv p3, sv, iv p4, iv (2 : Int32), iv (0 : Int32), iv fA, iv fC, rv b582, uv, uv, uv, uv, uv, uv]) rfl) ?_
      obtain ⟨T587, h587, X587, e587, E587, A587, D587, -, st587⟩ := newO X586 hx hZ hown (ow hw 1 rfl) (ow hw 2 rfl) (ow hw 3 rfl) e586 (g := (mkF m 70 #[jv p0, sv, jv p1, sv, jv p2, sv, jv p3, sv, iv p4, iv (2 : Int32), iv (0 : Int32), iv fA, iv fC, rv b582, uv, uv, uv, uv, uv, uv] [])) rfl (hb hby at_70) (by decide) (by decide)
      have V587' := V586.newObj (ns := ns_SearchPath) (vs := [.null, .null, .null, .null, .null, (.int (0 : Int32)), .null, .null, (.int (0 : Int32))]) Z586 E587 A587 D587 (lay_ns_SearchPath hw) (by decide) (by decide)
      have Z587 : n0 ≤ h587.size := Nat.le_trans Z586 E587.1
      obtain ⟨b587, g587⟩ : ∃ z, z = h586.size := ⟨_, rfl⟩
      rw [← g587] at V587' st587
      have V587 : OView Z n0 h587 (oP b587 [.null, .null, .null, .null, .null, (.int (0 : Int32)), .null, .null, (.int (0 : Int32))] :: oB b582 [p0, p1, p2, p3] :: []) := V587'
      have O587 := O586.ext E587
      refine OGets.step st587 ?_
      refine OGets.step (fun _ => XS.dup X587.here hx rfl (hb hby at_73) rfl rfl) ?_
      refine OGets.step (fun _ => XS.iload X587.here hx rfl (hb hby at_74) rfl) ?_
      obtain ⟨_, _, ⟨T588, L588, k588, n588⟩, -, X588, ⟨Lc588, hQ588, l588, y588, z588⟩, st588⟩ := X587.specialBack hx (y := (⟨"com/example/inya/inya/SearchPath", "<init>", "(I)V"⟩ : MethodName)) rfl hown (mvT hZ (ow hw 4 rfl)) (mvT hZ (ow hw 5 rfl)) (mvT hZ (ow hw 6 rfl)) (by decide) (backOf (W := 1) (rm_ini2 l Z a0 hw [] b587 h587 n0 _ Z587  V587 O587) hZ (ow hw 6 rfl) (ow hw 3 rfl) (by decide) (by decide)) (g := (mkF m 76 #[jv p0, sv, jv p1, sv, jv p2, sv, jv p3, sv, iv p4, iv (2 : Int32), iv (0 : Int32), iv fA, iv fC, rv b582, uv, uv, uv, uv, uv, uv] [(.int (2 : Int32)), (.ref b587), (.ref b587)])) rfl (by rw [hml]; rfl) (Steps.refl _) (a := b587) (argsL := [(.int (2 : Int32))]) (rest := [(.ref b587)]) (lenOf pd_13 rfl) rfl (by show 2 * 0 + _ ≤ _; exact Nat.le_of_eq rfl) (hb hby at_76) (fun _ _ => ⟨rfl, e587, Nat.le_of_ble_eq_true rfl, Nat.le_of_ble_eq_true rfl⟩)
      dsimp only [Pt.U, Pt.locs, Pt.cells, Pt.slots] at X588 l588 y588 z588 st588 hQ588
      rw [l588, y588, z588] at X588
      obtain ⟨rfl, N588q, ap588, as588, aq588, ax588, ak588, ag588, ab588, V588, O588q⟩ := hQ588
      have N588 := Fr.app N586 N588q
      have V588v : OView Z n0 T588.heap (oP b587 [(.ref ap588), (.ref as588), (.ref aq588), (.ref ax588), (.ref ak588), (.int (2 : Int32)), (.ref ag588), (.ref ab588), (.int (0 : Int32))] :: oA ap588 (List.replicate 16 (0 : Int32)) :: oA as588 (List.replicate 16 (0 : Int32)) :: oN aq588 :: oA ax588 (List.replicate 16 (0 : Int32)) :: oA ak588 (List.replicate 16 (0 : Int32)) :: oB ag588 (List.replicate 32 (0 : Int64)) :: oB ab588 (List.replicate 32 (0 : Int64)) :: oB b582 [p0, p1, p2, p3] :: []) := V588
      have Z588 : n0 ≤ T588.heap.size := V588v.big 0 rfl
      refine OGets.after st588 ?_
      refine OGets.step (fun _ => XS.astore X588.here hx rfl (hb hby at_79) rfl rfl (l' := #[jv p0, sv, jv p1, sv, jv p2, sv, jv p3, sv, iv p4, iv (2 : Int32), iv (0 : Int32), iv fA, iv fC, rv b582, rv b587, uv, uv, uv, uv, uv]) rfl) ?_
      refine OGets.step (fun _ => XS.aload X588.here hx rfl (hb hby at_81) rfl rfl) ?_
      refine OGets.step (fun _ => XS.bipush X588.here hx rfl (hb hby at_83)) ?_
      obtain ⟨cq589, kq589, q589a, q589b, q589c⟩ := isOf hZ rfl (V588v.exa 0 rfl)
      obtain ⟨_, _, ⟨T589, L589, k589, n589⟩, -, X589, ⟨Lc589, hQ589, l589, y589, z589⟩, st589⟩ := X588.virtualBack hx (y := (⟨"com/example/inya/inya/SearchPath", "add", "(I)V"⟩ : MethodName)) (z := (⟨"com/example/inya/inya/SearchPath", "add", "(I)V"⟩ : MethodName)) hown (mvT hZ (ow hw 29 rfl)) (mvT hZ (ow hw 30 rfl)) (notFace_of_selects (args := #[]) (mvT hZ (ow hw 32 rfl))) (mvT hZ (ow hw 32 rfl)) (mvT hZ (ow hw 31 rfl)) (by decide) (backOf (W := 0) (rm_add20 l Z a0 hw [] b587 ap588 as588 aq588 ax588 ak588 ag588 ab588 (7 : Int32) (List.replicate 16 (0 : Int32)) (List.replicate 16 (0 : Int32)) (List.replicate 16 (0 : Int32)) (List.replicate 16 (0 : Int32)) (List.replicate 32 (0 : Int64)) (List.replicate 32 (0 : Int64)) T588.heap n0 _ Z588 (by simp only [si_len, sj_len, List.length_replicate]) (by simp only [si_len, sj_len, List.length_replicate]) (by simp only [si_len, sj_len, List.length_replicate]) (by simp only [si_len, sj_len, List.length_replicate]) (by simp only [si_len, sj_len, List.length_replicate]) (by simp only [si_len, sj_len, List.length_replicate]) V588v O588q) hZ (ow hw 33 rfl) (ow hw 3 rfl) (by decide) (by decide)) q589a q589c (g := (mkF m 85 #[jv p0, sv, jv p1, sv, jv p2, sv, jv p3, sv, iv p4, iv (2 : Int32), iv (0 : Int32), iv fA, iv fC, rv b582, rv b587, uv, uv, uv, uv, uv] [(.int (7 : Int32)), (.ref b587)])) rfl (by rw [hml]; rfl) (Steps.refl _) (argsL := [(.int (7 : Int32))]) (rest := []) (lenOf pd_13 rfl) rfl (by show 2 * 0 + _ ≤ _; exact Nat.le_of_eq rfl) (hb hby at_85) (fun _ _ => ⟨rfl, rfl, Nat.le_of_ble_eq_true rfl, Nat.le_of_ble_eq_true rfl⟩)
      dsimp only [Pt.U, Pt.locs, Pt.cells, Pt.slots] at X589 l589 y589 z589 st589 hQ589
      rw [l589, y589, z589] at X589
      obtain ⟨rfl, N589q, V589, O589q⟩ := hQ589
      have N589 := Fr.app N588 N589q
      have V589v : OView Z n0 T589.heap (oP b587 [(.ref ap588), (.ref as588), (.ref aq588), (.ref ax588), (.ref ak588), (.int (2 : Int32)), (.ref ag588), (.ref ab588), (.int (1 : Int32))] :: oA ap588 (si (List.replicate 16 (0 : Int32)) (0 : Int32) (7 : Int32)) :: oA as588 (si (List.replicate 16 (0 : Int32)) (0 : Int32) (0 : Int32)) :: oN aq588 :: oA ax588 (si (List.replicate 16 (0 : Int32)) (0 : Int32) (0 : Int32)) :: oA ak588 (si (List.replicate 16 (0 : Int32)) (0 : Int32) (-1 : Int32)) :: oB ag588 (sj (sj (List.replicate 32 (0 : Int64)) (0 : Int32) (0 : Int64)) (1 : Int32) (0 : Int64)) :: oB ab588 (sj (sj (List.replicate 32 (0 : Int64)) (0 : Int32) (0 : Int64)) (1 : Int32) (0 : Int64)) :: oB b582 [p0, p1, p2, p3] :: []) := V589
      have Z589 : n0 ≤ T589.heap.size := V589v.big 0 rfl
      refine OGets.after st589 ?_
      refine OGets.step (fun _ => XS.aload X589.here hx rfl (hb hby at_88) rfl rfl) ?_
      refine OGets.step (fun _ => XS.bipush X589.here hx rfl (hb hby at_90)) ?_
      obtain ⟨cq590, kq590, q590a, q590b, q590c⟩ := isOf hZ rfl (V589v.exa 0 rfl)
      obtain ⟨_, _, ⟨T590, L590, k590, n590⟩, -, X590, ⟨Lc590, hQ590, l590, y590, z590⟩, st590⟩ := X589.virtualBack hx (y := (⟨"com/example/inya/inya/SearchPath", "add", "(I)V"⟩ : MethodName)) (z := (⟨"com/example/inya/inya/SearchPath", "add", "(I)V"⟩ : MethodName)) hown (mvT hZ (ow hw 29 rfl)) (mvT hZ (ow hw 30 rfl)) (notFace_of_selects (args := #[]) (mvT hZ (ow hw 32 rfl))) (mvT hZ (ow hw 32 rfl)) (mvT hZ (ow hw 31 rfl)) (by decide) (backOf (W := 0) (rm_add21 l Z a0 hw [] b587 ap588 as588 aq588 ax588 ak588 ag588 ab588 (9 : Int32) (si (List.replicate 16 (0 : Int32)) (0 : Int32) (7 : Int32)) (si (List.replicate 16 (0 : Int32)) (0 : Int32) (0 : Int32)) (si (List.replicate 16 (0 : Int32)) (0 : Int32) (0 : Int32)) (si (List.replicate 16 (0 : Int32)) (0 : Int32) (-1 : Int32)) (sj (sj (List.replicate 32 (0 : Int64)) (0 : Int32) (0 : Int64)) (1 : Int32) (0 : Int64)) (sj (sj (List.replicate 32 (0 : Int64)) (0 : Int32) (0 : Int64)) (1 : Int32) (0 : Int64)) T589.heap n0 _ Z589 (by simp only [si_len, sj_len, List.length_replicate]) (by simp only [si_len, sj_len, List.length_replicate]) (by simp only [si_len, sj_len, List.length_replicate]) (by simp only [si_len, sj_len, List.length_replicate]) (by simp only [si_len, sj_len, List.length_replicate]) (by simp only [si_len, sj_len, List.length_replicate]) V589v O589q) hZ (ow hw 33 rfl) (ow hw 3 rfl) (by decide) (by decide)) q590a q590c (g := (mkF m 92 #[jv p0, sv, jv p1, sv, jv p2, sv, jv p3, sv, iv p4, iv (2 : Int32), iv (0 : Int32), iv fA, iv fC, rv b582, rv b587, uv, uv, uv, uv, uv] [(.int (9 : Int32)), (.ref b587)])) rfl (by rw [hml]; rfl) (Steps.refl _) (argsL := [(.int (9 : Int32))]) (rest := []) (lenOf pd_13 rfl) rfl (by show 2 * 0 + _ ≤ _; exact Nat.le_of_eq rfl) (hb hby at_92) (fun _ _ => ⟨rfl, rfl, Nat.le_of_ble_eq_true rfl, Nat.le_of_ble_eq_true rfl⟩)
      dsimp only [Pt.U, Pt.locs, Pt.cells, Pt.slots] at X590 l590 y590 z590 st590 hQ590
      rw [l590, y590, z590] at X590
      obtain ⟨rfl, N590q, V590, O590q⟩ := hQ590
      have N590 := Fr.app N589 N590q
      have V590v : OView Z n0 T590.heap (oP b587 [(.ref ap588), (.ref as588), (.ref aq588), (.ref ax588), (.ref ak588), (.int (2 : Int32)), (.ref ag588), (.ref ab588), (.int (2 : Int32))] :: oA ap588 (si (si (List.replicate 16 (0 : Int32)) (0 : Int32) (7 : Int32)) (1 : Int32) (9 : Int32)) :: oA as588 (si (si (List.replicate 16 (0 : Int32)) (0 : Int32) (0 : Int32)) (1 : Int32) (0 : Int32)) :: oN aq588 :: oA ax588 (si (si (List.replicate 16 (0 : Int32)) (0 : Int32) (0 : Int32)) (1 : Int32) (0 : Int32)) :: oA ak588 (si (si (List.replicate 16 (0 : Int32)) (0 : Int32) (-1 : Int32)) (1 : Int32) (-1 : Int32)) :: oB ag588 (sj (sj (sj (sj (List.replicate 32 (0 : Int64)) (0 : Int32) (0 : Int64)) (1 : Int32) (0 : Int64)) (2 : Int32) (0 : Int64)) (3 : Int32) (0 : Int64)) :: oB ab588 (sj (sj (sj (sj (List.replicate 32 (0 : Int64)) (0 : Int32) (0 : Int64)) (1 : Int32) (0 : Int64)) (2 : Int32) (0 : Int64)) (3 : Int32) (0 : Int64)) :: oB b582 [p0, p1, p2, p3] :: []) := V590
      obtain ⟨Ga, hGa⟩ : ∃ z, z = (sj (sj (sj (sj (List.replicate 32 (0 : Int64)) (0 : Int32) (0 : Int64)) (1 : Int32) (0 : Int64)) (2 : Int32) (0 : Int64)) (3 : Int32) (0 : Int64)) := ⟨_, rfl⟩
      rw [← hGa] at V590v
      have lGa : Ga.length = 32 := by rw [hGa]; simp only [sj_len, List.length_replicate]
      have Z590 : n0 ≤ T590.heap.size := V590v.big 0 rfl
      refine OGets.after st590 ?_
      have Vd591 : OView Z n0 T590.heap (oP b587 [(.ref ap588), (.ref as588), (.ref aq588), (.ref ax588), (.ref ak588), (.int (2 : Int32)), (.ref ag588), (.ref ab588), (.int (2 : Int32))] :: oB ag588 Ga :: oB b582 [p0, p1, p2, p3] :: []) := ((((((V590v.bring 1 rfl).tail.bring 1 rfl).tail.bring 1 rfl).tail.bring 1 rfl).tail.bring 1 rfl).tail.bring 2 rfl).tail
      show OGets p e below _ (T590.setTop (mkF m 95 #[jv p0, sv, jv p1, sv, jv p2, sv, jv p3, sv, iv p4, iv (2 : Int32), iv (0 : Int32), iv fA, iv fC, rv b582, rv b587, uv, uv, uv, uv, uv] []))
      refine OGets.step (fun _ => XS.aload X590.here hx rfl (hb hby at_95) rfl rfl) ?_
      refine OGets.step (fun _ => XS.iload X590.here hx rfl (hb hby at_97) rfl) ?_
      refine OGets.step (fun _ => XS.aload X590.here hx rfl (hb hby at_99) rfl rfl) ?_
      refine OGets.step (fun _ => XS.iload X590.here hx rfl (hb hby at_101) rfl) ?_
      obtain ⟨cq592, kq592, q592a, q592b, q592c⟩ := isOf hZ rfl (Vd591.exa 0 rfl)
      obtain ⟨_, _, ⟨T592, L592, k592, n592⟩, -, X592, ⟨Lc592, hQ592, l592, y592, z592⟩, st592⟩ := X590.virtualBack hx (y := (⟨"com/example/inya/inya/SearchPath", "gather", "(I[JI)V"⟩ : MethodName)) (z := (⟨"com/example/inya/inya/SearchPath", "gather", "(I[JI)V"⟩ : MethodName)) hown (mvT hZ (ow hw 43 rfl)) (mvT hZ (ow hw 44 rfl)) (notFace_of_selects (args := #[]) (mvT hZ (ow hw 46 rfl))) (mvT hZ (ow hw 46 rfl)) (mvT hZ (ow hw 45 rfl)) (by decide) (backOf (W := 0) (rm_gat20 l Z a0 hw [] b587 b582 ap588 as588 aq588 ax588 ak588 ag588 ab588 fA Ga [p0, p1, p2, p3] T590.heap n0 _ Z590 lGa (by simp only [own_l4]) q_fA.1 q_fA.2 Vd591 O590q) hZ (ow hw 47 rfl) (ow hw 3 rfl) (by decide) (by decide)) q592a q592c (g := (mkF m 103 #[jv p0, sv, jv p1, sv, jv p2, sv, jv p3, sv, iv p4, iv (2 : Int32), iv (0 : Int32), iv fA, iv fC, rv b582, rv b587, uv, uv, uv, uv, uv] [(.int fA), (.ref b582), (.int (0 : Int32)), (.ref b587)])) rfl (by rw [hml]; rfl) (Steps.refl _) (argsL := [(.int (0 : Int32)), (.ref b582), (.int fA)]) (rest := []) (lenOf pd_14 rfl) rfl (by show 2 * 0 + _ ≤ _; exact Nat.le_of_eq rfl) (hb hby at_103) (fun _ _ => ⟨rfl, rfl, Nat.le_of_ble_eq_true rfl, Nat.le_of_ble_eq_true rfl⟩)
      dsimp only [Pt.U, Pt.locs, Pt.cells, Pt.slots] at X592 l592 y592 z592 st592 hQ592
      rw [l592, y592, z592] at X592
      obtain ⟨rfl, N592q, V592, O592q⟩ := hQ592
      have N592 := Fr.app N590 N592q
      have V592v : OView Z n0 T592.heap (oP b587 [(.ref ap588), (.ref as588), (.ref aq588), (.ref ax588), (.ref ak588), (.int (2 : Int32)), (.ref ag588), (.ref ab588), (.int (2 : Int32))] :: oB ag588 (sj (sj Ga (0 : Int32) ((gj Ga (0 : Int32)) ||| (gj [p0, p1, p2, p3] (fA + (0 : Int32))))) (1 : Int32) ((gj (sj Ga (0 : Int32) ((gj Ga (0 : Int32)) ||| (gj [p0, p1, p2, p3] (fA + (0 : Int32))))) (1 : Int32)) ||| (gj [p0, p1, p2, p3] (fA + (1 : Int32))))) :: oB b582 [p0, p1, p2, p3] :: []) := V592
      obtain ⟨Gb, hGb⟩ : ∃ z, z = (sj (sj Ga (0 : Int32) ((gj Ga (0 : Int32)) ||| (gj [p0, p1, p2, p3] (fA + (0 : Int32))))) (1 : Int32) ((gj (sj Ga (0 : Int32) ((gj Ga (0 : Int32)) ||| (gj [p0, p1, p2, p3] (fA + (0 : Int32))))) (1 : Int32)) ||| (gj [p0, p1, p2, p3] (fA + (1 : Int32))))) := ⟨_, rfl⟩
      rw [← hGb] at V592v
      have lGb : Gb.length = 32 := by rw [hGb]; simp only [sj_len, lGa]
      have Z592 : n0 ≤ T592.heap.size := V592v.big 0 rfl
      refine OGets.after st592 ?_
      refine OGets.step (fun _ => XS.aload X592.here hx rfl (hb hby at_106) rfl rfl) ?_
      refine OGets.step (fun _ => XS.iload X592.here hx rfl (hb hby at_108) rfl) ?_
      refine OGets.step (fun _ => XS.aload X592.here hx rfl (hb hby at_110) rfl rfl) ?_
      refine OGets.step (fun _ => XS.iload X592.here hx rfl (hb hby at_112) rfl) ?_
      obtain ⟨cq593, kq593, q593a, q593b, q593c⟩ := isOf hZ rfl (V592v.exa 0 rfl)
      obtain ⟨_, _, ⟨T593, L593, k593, n593⟩, -, X593, ⟨Lc593, hQ593, l593, y593, z593⟩, st593⟩ := X592.virtualBack hx (y := (⟨"com/example/inya/inya/SearchPath", "gather", "(I[JI)V"⟩ : MethodName)) (z := (⟨"com/example/inya/inya/SearchPath", "gather", "(I[JI)V"⟩ : MethodName)) hown (mvT hZ (ow hw 43 rfl)) (mvT hZ (ow hw 44 rfl)) (notFace_of_selects (args := #[]) (mvT hZ (ow hw 46 rfl))) (mvT hZ (ow hw 46 rfl)) (mvT hZ (ow hw 45 rfl)) (by decide) (backOf (W := 0) (rm_gat20 l Z a0 hw [] b587 b582 ap588 as588 aq588 ax588 ak588 ag588 ab588 fC Gb [p0, p1, p2, p3] T592.heap n0 _ Z592 lGb (by simp only [own_l4]) q_fC.1 q_fC.2 V592v O592q) hZ (ow hw 47 rfl) (ow hw 3 rfl) (by decide) (by decide)) q593a q593c (g := (mkF m 114 #[jv p0, sv, jv p1, sv, jv p2, sv, jv p3, sv, iv p4, iv (2 : Int32), iv (0 : Int32), iv fA, iv fC, rv b582, rv b587, uv, uv, uv, uv, uv] [(.int fC), (.ref b582), (.int (0 : Int32)), (.ref b587)])) rfl (by rw [hml]; rfl) (Steps.refl _) (argsL := [(.int (0 : Int32)), (.ref b582), (.int fC)]) (rest := []) (lenOf pd_14 rfl) rfl (by show 2 * 0 + _ ≤ _; exact Nat.le_of_eq rfl) (hb hby at_114) (fun _ _ => ⟨rfl, rfl, Nat.le_of_ble_eq_true rfl, Nat.le_of_ble_eq_true rfl⟩)
      dsimp only [Pt.U, Pt.locs, Pt.cells, Pt.slots] at X593 l593 y593 z593 st593 hQ593
      rw [l593, y593, z593] at X593
      obtain ⟨rfl, N593q, V593, O593q⟩ := hQ593
      have N593 := Fr.app N592 N593q
      have V593v : OView Z n0 T593.heap (oP b587 [(.ref ap588), (.ref as588), (.ref aq588), (.ref ax588), (.ref ak588), (.int (2 : Int32)), (.ref ag588), (.ref ab588), (.int (2 : Int32))] :: oB ag588 (sj (sj Gb (0 : Int32) ((gj Gb (0 : Int32)) ||| (gj [p0, p1, p2, p3] (fC + (0 : Int32))))) (1 : Int32) ((gj (sj Gb (0 : Int32) ((gj Gb (0 : Int32)) ||| (gj [p0, p1, p2, p3] (fC + (0 : Int32))))) (1 : Int32)) ||| (gj [p0, p1, p2, p3] (fC + (1 : Int32))))) :: oB b582 [p0, p1, p2, p3] :: []) := V593
      obtain ⟨Gc, hGc⟩ : ∃ z, z = (sj (sj Gb (0 : Int32) ((gj Gb (0 : Int32)) ||| (gj [p0, p1, p2, p3] (fC + (0 : Int32))))) (1 : Int32) ((gj (sj Gb (0 : Int32) ((gj Gb (0 : Int32)) ||| (gj [p0, p1, p2, p3] (fC + (0 : Int32))))) (1 : Int32)) ||| (gj [p0, p1, p2, p3] (fC + (1 : Int32))))) := ⟨_, rfl⟩
      rw [← hGc] at V593v
      have lGc : Gc.length = 32 := by rw [hGc]; simp only [sj_len, lGb]
      have Z593 : n0 ≤ T593.heap.size := V593v.big 0 rfl
      refine OGets.after st593 ?_
      refine OGets.step (fun _ => XS.aload X593.here hx rfl (hb hby at_117) rfl rfl) ?_
      refine OGets.step (fun _ => XS.iload X593.here hx rfl (hb hby at_119) rfl) ?_
      obtain ⟨cl594, Ar594, S594⟩ := V593v.arr 2 rfl
      refine OGets.step (fun _ => X593.laload hx (j := fA) (v := (.long (gj [p0, p1, p2, p3] fA))) Ar594.1 (State.isArrayOf_alike hZ.alike Ar594.2.1) Ar594.2.2 (own_sin (n := 4) S594 (by simp only [List.length_map, si_len, sj_len, List.length_replicate, own_l4]) (own_in0 q_fA.1)) (own_sgetJ (n := 4) S594 (by simp only [List.length_map, si_len, sj_len, List.length_replicate, own_l4]) (own_in0 q_fA.1)) (g := (mkF m 121 #[jv p0, sv, jv p1, sv, jv p2, sv, jv p3, sv, iv p4, iv (2 : Int32), iv (0 : Int32), iv fA, iv fC, rv b582, rv b587, uv, uv, uv, uv, uv] [(.int fA), (.ref b582)])) rfl rfl (hb hby at_121) _) ?_
      refine OGets.step (fun _ => XS.aload X593.here hx rfl (hb hby at_122) rfl rfl) ?_
      refine OGets.step (fun _ => XS.iload X593.here hx rfl (hb hby at_124) rfl) ?_
      show OGets p e below _ (T593.setTop (mkF m 126 #[jv p0, sv, jv p1, sv, jv p2, sv, jv p3, sv, iv p4, iv (2 : Int32), iv (0 : Int32), iv fA, iv fC, rv b582, rv b587, uv, uv, uv, uv, uv] [(.int fC), (.ref b582), (.long (gj [p0, p1, p2, p3] fA))]))
      obtain ⟨cl595, Ar595, S595⟩ := V593v.arr 2 rfl
      refine OGets.step (fun _ => X593.laload hx (j := fC) (v := (.long (gj [p0, p1, p2, p3] fC))) Ar595.1 (State.isArrayOf_alike hZ.alike Ar595.2.1) Ar595.2.2 (own_sin (n := 4) S595 (by simp only [List.length_map, si_len, sj_len, List.length_replicate, own_l4]) (own_in0 q_fC.1)) (own_sgetJ (n := 4) S595 (by simp only [List.length_map, si_len, sj_len, List.length_replicate, own_l4]) (own_in0 q_fC.1)) (g := (mkF m 126 #[jv p0, sv, jv p1, sv, jv p2, sv, jv p3, sv, iv p4, iv (2 : Int32), iv (0 : Int32), iv fA, iv fC, rv b582, rv b587, uv, uv, uv, uv, uv] [(.int fC), (.ref b582), (.long (gj [p0, p1, p2, p3] fA))])) rfl rfl (hb hby at_126) _) ?_
      refine OGets.step (fun _ => XS.lor X593.here hx rfl (hb hby at_127) rfl) ?_
      show OGets p e below _ (T593.setTop (mkF m 128 #[jv p0, sv, jv p1, sv, jv p2, sv, jv p3, sv, iv p4, iv (2 : Int32), iv (0 : Int32), iv fA, iv fC, rv b582, rv b587, uv, uv, uv, uv, uv] [(.long ((gj [p0, p1, p2, p3] fA) ||| (gj [p0, p1, p2, p3] fC)))]))
      generalize hea : ((gj [p0, p1, p2, p3] fA) ||| (gj [p0, p1, p2, p3] fC)) = ea
      show OGets p e below _ (T593.setTop (mkF m 128 #[jv p0, sv, jv p1, sv, jv p2, sv, jv p3, sv, iv p4, iv (2 : Int32), iv (0 : Int32), iv fA, iv fC, rv b582, rv b587, uv, uv, uv, uv, uv] [(.long ea)]))
      refine OGets.step (fun _ => XS.lstore X593.here hx rfl (hb hby at_128) rfl (l' := #[jv p0, sv, jv p1, sv, jv p2, sv, jv p3, sv, iv p4, iv (2 : Int32), iv (0 : Int32), iv fA, iv fC, rv b582, rv b587, jv ea, sv, uv, uv, uv]) rfl) ?_
      refine OGets.step (fun _ => XS.lconst X593.here hx rfl (hb hby at_130)) ?_
      refine OGets.step (fun _ => XS.lstore X593.here hx rfl (hb hby at_131) rfl (l' := #[jv p0, sv, jv p1, sv, jv p2, sv, jv p3, sv, iv p4, iv (2 : Int32), iv (0 : Int32), iv fA, iv fC, rv b582, rv b587, jv ea, sv, jv (0 : Int64), sv, uv]) rfl) ?_
      refine OGets.step (fun _ => XS.iload X593.here hx rfl (hb hby at_133) rfl) ?_
      refine OGets.step (fun _ => XS.iconst X593.here hx rfl (hb hby at_135)) ?_
      refine OGets.step (fun _ => XS.icmpNo X593.here hx rfl (hb hby at_136) rfl (teq (by decide : (2 : Int32) = (2 : Int32))).2) ?_
      show OGets p e below _ (T593.setTop (mkF m 139 #[jv p0, sv, jv p1, sv, jv p2, sv, jv p3, sv, iv p4, iv (2 : Int32), iv (0 : Int32), iv fA, iv fC, rv b582, rv b587, jv ea, sv, jv (0 : Int64), sv, uv] []))
      refine OGets.step (fun _ => XS.aload X593.here hx rfl (hb hby at_139) rfl rfl) ?_
      refine OGets.step (fun _ => XS.iload X593.here hx rfl (hb hby at_141) rfl) ?_
      refine OGets.step (fun _ => XS.iconst X593.here hx rfl (hb hby at_143)) ?_
      refine OGets.step (fun _ => XS.iadd X593.here hx rfl (hb hby at_144) rfl) ?_
      obtain ⟨cl597, Ar597, S597⟩ := V593v.arr 2 rfl
      refine OGets.step (fun _ => X593.laload hx (j := (fA + (1 : Int32))) (v := (.long (gj [p0, p1, p2, p3] (fA + (1 : Int32))))) Ar597.1 (State.isArrayOf_alike hZ.alike Ar597.2.1) Ar597.2.2 (own_sin (n := 4) S597 (by simp only [List.length_map, si_len, sj_len, List.length_replicate, own_l4]) q_fA.2) (own_sgetJ (n := 4) S597 (by simp only [List.length_map, si_len, sj_len, List.length_replicate, own_l4]) q_fA.2) (g := (mkF m 145 #[jv p0, sv, jv p1, sv, jv p2, sv, jv p3, sv, iv p4, iv (2 : Int32), iv (0 : Int32), iv fA, iv fC, rv b582, rv b587, jv ea, sv, jv (0 : Int64), sv, uv] [(.int (fA + (1 : Int32))), (.ref b582)])) rfl rfl (hb hby at_145) _) ?_
      refine OGets.step (fun _ => XS.aload X593.here hx rfl (hb hby at_146) rfl rfl) ?_
      show OGets p e below _ (T593.setTop (mkF m 148 #[jv p0, sv, jv p1, sv, jv p2, sv, jv p3, sv, iv p4, iv (2 : Int32), iv (0 : Int32), iv fA, iv fC, rv b582, rv b587, jv ea, sv, jv (0 : Int64), sv, uv] [(.ref b582), (.long (gj [p0, p1, p2, p3] (fA + (1 : Int32))))]))
      refine OGets.step (fun _ => XS.iload X593.here hx rfl (hb hby at_148) rfl) ?_
      refine OGets.step (fun _ => XS.iconst X593.here hx rfl (hb hby at_150)) ?_
      refine OGets.step (fun _ => XS.iadd X593.here hx rfl (hb hby at_151) rfl) ?_
      obtain ⟨cl598, Ar598, S598⟩ := V593v.arr 2 rfl
      refine OGets.step (fun _ => X593.laload hx (j := (fC + (1 : Int32))) (v := (.long (gj [p0, p1, p2, p3] (fC + (1 : Int32))))) Ar598.1 (State.isArrayOf_alike hZ.alike Ar598.2.1) Ar598.2.2 (own_sin (n := 4) S598 (by simp only [List.length_map, si_len, sj_len, List.length_replicate, own_l4]) q_fC.2) (own_sgetJ (n := 4) S598 (by simp only [List.length_map, si_len, sj_len, List.length_replicate, own_l4]) q_fC.2) (g := (mkF m 152 #[jv p0, sv, jv p1, sv, jv p2, sv, jv p3, sv, iv p4, iv (2 : Int32), iv (0 : Int32), iv fA, iv fC, rv b582, rv b587, jv ea, sv, jv (0 : Int64), sv, uv] [(.int (fC + (1 : Int32))), (.ref b582), (.long (gj [p0, p1, p2, p3] (fA + (1 : Int32))))])) rfl rfl (hb hby at_152) _) ?_
      refine OGets.step (fun _ => XS.lor X593.here hx rfl (hb hby at_153) rfl) ?_
      show OGets p e below _ (T593.setTop (mkF m 154 #[jv p0, sv, jv p1, sv, jv p2, sv, jv p3, sv, iv p4, iv (2 : Int32), iv (0 : Int32), iv fA, iv fC, rv b582, rv b587, jv ea, sv, jv (0 : Int64), sv, uv] [(.long ((gj [p0, p1, p2, p3] (fA + (1 : Int32))) ||| (gj [p0, p1, p2, p3] (fC + (1 : Int32)))))]))
      generalize heb : ((gj [p0, p1, p2, p3] (fA + (1 : Int32))) ||| (gj [p0, p1, p2, p3] (fC + (1 : Int32)))) = eb
      show OGets p e below _ (T593.setTop (mkF m 154 #[jv p0, sv, jv p1, sv, jv p2, sv, jv p3, sv, iv p4, iv (2 : Int32), iv (0 : Int32), iv fA, iv fC, rv b582, rv b587, jv ea, sv, jv (0 : Int64), sv, uv] [(.long eb)]))
      refine OGets.step (fun _ => XS.lstore X593.here hx rfl (hb hby at_154) rfl (l' := #[jv p0, sv, jv p1, sv, jv p2, sv, jv p3, sv, iv p4, iv (2 : Int32), iv (0 : Int32), iv fA, iv fC, rv b582, rv b587, jv ea, sv, jv eb, sv, uv]) rfl) ?_
      refine OGets.step (fun _ => XS.aload X593.here hx rfl (hb hby at_156) rfl rfl) ?_
      refine OGets.step (fun _ => XS.iconst X593.here hx rfl (hb hby at_158)) ?_
      obtain ⟨cl599, Ar599, S599⟩ := V593v.arr 2 rfl
      refine OGets.step (fun _ => X593.laload hx (j := (0 : Int32)) (v := (.long (gj [p0, p1, p2, p3] (0 : Int32)))) Ar599.1 (State.isArrayOf_alike hZ.alike Ar599.2.1) Ar599.2.2 (own_sin (n := 4) S599 (by simp only [List.length_map, si_len, sj_len, List.length_replicate, own_l4]) (by decide)) (own_sgetJ (n := 4) S599 (by simp only [List.length_map, si_len, sj_len, List.length_replicate, own_l4]) (by decide)) (g := (mkF m 159 #[jv p0, sv, jv p1, sv, jv p2, sv, jv p3, sv, iv p4, iv (2 : Int32), iv (0 : Int32), iv fA, iv fC, rv b582, rv b587, jv ea, sv, jv eb, sv, uv] [(.int (0 : Int32)), (.ref b582)])) rfl rfl (hb hby at_159) _) ?_
      refine OGets.step (fun _ => XS.lloadN X593.here hx rfl (hb hby at_160) rfl) ?_
      refine OGets.step (fun _ => XS.lcmp X593.here hx rfl (hb hby at_161) rfl) ?_
      show OGets p e below _ (T593.setTop (mkF m 162 #[jv p0, sv, jv p1, sv, jv p2, sv, jv p3, sv, iv p4, iv (2 : Int32), iv (0 : Int32), iv fA, iv fC, rv b582, rv b587, jv ea, sv, jv eb, sv, uv] [(.int (lcmpW (gj [p0, p1, p2, p3] (0 : Int32)) p0))]))
      refine OGets.step (fun _ => XS.ifNo X593.here hx rfl (hb hby at_162) rfl ((if0 _ _).trans (teq ((lw_eq _ _).mpr (rfl : (gj [p0, p1, p2, p3] (0 : Int32)) = p0))).2)) ?_
      refine OGets.step (fun _ => XS.aload X593.here hx rfl (hb hby at_165) rfl rfl) ?_
      refine OGets.step (fun _ => XS.iconst X593.here hx rfl (hb hby at_167)) ?_
      obtain ⟨cl601, Ar601, S601⟩ := V593v.arr 2 rfl
      refine OGets.step (fun _ => X593.laload hx (j := (1 : Int32)) (v := (.long (gj [p0, p1, p2, p3] (1 : Int32)))) Ar601.1 (State.isArrayOf_alike hZ.alike Ar601.2.1) Ar601.2.2 (own_sin (n := 4) S601 (by simp only [List.length_map, si_len, sj_len, List.length_replicate, own_l4]) (by decide)) (own_sgetJ (n := 4) S601 (by simp only [List.length_map, si_len, sj_len, List.length_replicate, own_l4]) (by decide)) (g := (mkF m 168 #[jv p0, sv, jv p1, sv, jv p2, sv, jv p3, sv, iv p4, iv (2 : Int32), iv (0 : Int32), iv fA, iv fC, rv b582, rv b587, jv ea, sv, jv eb, sv, uv] [(.int (1 : Int32)), (.ref b582)])) rfl rfl (hb hby at_168) _) ?_
      refine OGets.step (fun _ => XS.lloadN X593.here hx rfl (hb hby at_169) rfl) ?_
      refine OGets.step (fun _ => XS.lcmp X593.here hx rfl (hb hby at_170) rfl) ?_
      show OGets p e below _ (T593.setTop (mkF m 171 #[jv p0, sv, jv p1, sv, jv p2, sv, jv p3, sv, iv p4, iv (2 : Int32), iv (0 : Int32), iv fA, iv fC, rv b582, rv b587, jv ea, sv, jv eb, sv, uv] [(.int (lcmpW (gj [p0, p1, p2, p3] (1 : Int32)) p1))]))
      refine OGets.step (fun _ => XS.ifNo X593.here hx rfl (hb hby at_171) rfl ((if0 _ _).trans (teq ((lw_eq _ _).mpr (rfl : (gj [p0, p1, p2, p3] (1 : Int32)) = p1))).2)) ?_
      refine OGets.step (fun _ => XS.aload X593.here hx rfl (hb hby at_174) rfl rfl) ?_
      refine OGets.step (fun _ => XS.iconst X593.here hx rfl (hb hby at_176)) ?_
      obtain ⟨cl603, Ar603, S603⟩ := V593v.arr 2 rfl
      refine OGets.step (fun _ => X593.laload hx (j := (2 : Int32)) (v := (.long (gj [p0, p1, p2, p3] (2 : Int32)))) Ar603.1 (State.isArrayOf_alike hZ.alike Ar603.2.1) Ar603.2.2 (own_sin (n := 4) S603 (by simp only [List.length_map, si_len, sj_len, List.length_replicate, own_l4]) (by decide)) (own_sgetJ (n := 4) S603 (by simp only [List.length_map, si_len, sj_len, List.length_replicate, own_l4]) (by decide)) (g := (mkF m 177 #[jv p0, sv, jv p1, sv, jv p2, sv, jv p3, sv, iv p4, iv (2 : Int32), iv (0 : Int32), iv fA, iv fC, rv b582, rv b587, jv ea, sv, jv eb, sv, uv] [(.int (2 : Int32)), (.ref b582)])) rfl rfl (hb hby at_177) _) ?_
      refine OGets.step (fun _ => XS.lload X593.here hx rfl (hb hby at_178) rfl) ?_
      refine OGets.step (fun _ => XS.lcmp X593.here hx rfl (hb hby at_180) rfl) ?_
      show OGets p e below _ (T593.setTop (mkF m 181 #[jv p0, sv, jv p1, sv, jv p2, sv, jv p3, sv, iv p4, iv (2 : Int32), iv (0 : Int32), iv fA, iv fC, rv b582, rv b587, jv ea, sv, jv eb, sv, uv] [(.int (lcmpW (gj [p0, p1, p2, p3] (2 : Int32)) p2))]))
      refine OGets.step (fun _ => XS.ifNo X593.here hx rfl (hb hby at_181) rfl ((if0 _ _).trans (teq ((lw_eq _ _).mpr (rfl : (gj [p0, p1, p2, p3] (2 : Int32)) = p2))).2)) ?_
      refine OGets.step (fun _ => XS.aload X593.here hx rfl (hb hby at_184) rfl rfl) ?_
      refine OGets.step (fun _ => XS.iconst X593.here hx rfl (hb hby at_186)) ?_
      obtain ⟨cl605, Ar605, S605⟩ := V593v.arr 2 rfl
      refine OGets.step (fun _ => X593.laload hx (j := (3 : Int32)) (v := (.long (gj [p0, p1, p2, p3] (3 : Int32)))) Ar605.1 (State.isArrayOf_alike hZ.alike Ar605.2.1) Ar605.2.2 (own_sin (n := 4) S605 (by simp only [List.length_map, si_len, sj_len, List.length_replicate, own_l4]) (by decide)) (own_sgetJ (n := 4) S605 (by simp only [List.length_map, si_len, sj_len, List.length_replicate, own_l4]) (by decide)) (g := (mkF m 187 #[jv p0, sv, jv p1, sv, jv p2, sv, jv p3, sv, iv p4, iv (2 : Int32), iv (0 : Int32), iv fA, iv fC, rv b582, rv b587, jv ea, sv, jv eb, sv, uv] [(.int (3 : Int32)), (.ref b582)])) rfl rfl (hb hby at_187) _) ?_
      refine OGets.step (fun _ => XS.lload X593.here hx rfl (hb hby at_188) rfl) ?_
      refine OGets.step (fun _ => XS.lcmp X593.here hx rfl (hb hby at_190) rfl) ?_
      show OGets p e below _ (T593.setTop (mkF m 191 #[jv p0, sv, jv p1, sv, jv p2, sv, jv p3, sv, iv p4, iv (2 : Int32), iv (0 : Int32), iv fA, iv fC, rv b582, rv b587, jv ea, sv, jv eb, sv, uv] [(.int (lcmpW (gj [p0, p1, p2, p3] (3 : Int32)) p3))]))
      refine OGets.step (fun _ => XS.ifNo X593.here hx rfl (hb hby at_191) rfl ((if0 _ _).trans (teq ((lw_eq _ _).mpr (rfl : (gj [p0, p1, p2, p3] (3 : Int32)) = p3))).2)) ?_
      refine OGets.step (fun _ => XS.iconst X593.here hx rfl (hb hby at_194)) ?_
      refine OGets.step (fun _ => XS.goto X593.here hx rfl (pc0 := 195) (pc' := 199) rfl (hb hby at_195) (by decide) (by decide)) ?_
      refine OGets.step (fun _ => XS.istore X593.here hx rfl (hb hby at_199) rfl (l' := #[jv p0, sv, jv p1, sv, jv p2, sv, jv p3, sv, iv p4, iv (2 : Int32), iv (0 : Int32), iv fA, iv fC, rv b582, rv b587, jv ea, sv, jv eb, sv, iv (1 : Int32)]) rfl) ?_
      refine OGets.step (fun _ => XS.iload X593.here hx rfl (hb hby at_201) rfl) ?_
      refine OGets.step (fun _ => XS.ifNo X593.here hx rfl (hb hby at_203) rfl ((if0 _ _).trans (feq (by decide : ¬ ((1 : Int32) = (0 : Int32)))).1)) ?_
      have hx0 : (gj Gc (0 : Int32)) = ea := by rw [← hea, hGc, hGb, hGa]; exact own_or3 [p0, p1, p2, p3] fA fC
      have hx1 : (gj Gc (1 : Int32)) = eb := by rw [← heb, hGc, hGb, hGa]; exact own_or4 [p0, p1, p2, p3] fA fC
      by_cases hk1 : eb = (0 : Int64)
      · by_cases hk0 : ea = (0 : Int64)
        · show OGets p e below _ (T593.setTop (mkF m 206 #[jv p0, sv, jv p1, sv, jv p2, sv, jv p3, sv, iv p4, iv (2 : Int32), iv (0 : Int32), iv fA, iv fC, rv b582, rv b587, jv ea, sv, jv eb, sv, iv (1 : Int32)] []))
          refine OGets.step (fun _ => XS.aload X593.here hx rfl (hb hby at_206) rfl rfl) ?_
          refine OGets.step (fun _ => XS.iload X593.here hx rfl (hb hby at_208) rfl) ?_
          obtain ⟨cq608, kq608, q608a, q608b, q608c⟩ := isOf hZ rfl (V593v.exa 0 rfl)
          obtain ⟨_, _, ⟨T608, L608, k608, n608⟩, -, X608, ⟨Lc608, hQ608, l608, y608, z608⟩, st608⟩ := X593.virtualBack hx (y := (⟨"com/example/inya/inya/SearchPath", "gathered", "(I)Ljava/util/BitSet;"⟩ : MethodName)) (z := (⟨"com/example/inya/inya/SearchPath", "gathered", "(I)Ljava/util/BitSet;"⟩ : MethodName)) hown (mvT hZ (ow hw 48 rfl)) (mvT hZ (ow hw 49 rfl)) (notFace_of_selects (args := #[]) (mvT hZ (ow hw 51 rfl))) (mvT hZ (ow hw 51 rfl)) (mvT hZ (ow hw 50 rfl)) (by decide) (backOf (W := 0) (rm_gtd200 l Z a0 hw [] b587 ap588 as588 aq588 ax588 ak588 ag588 ab588 Gc T593.heap n0 _ Z593 SA lGc (by rw [hx0]; exact hk0) (by rw [hx1]; exact hk1) V593v O593q) hZ (ow hw 52 rfl) (ow hw 3 rfl) (by decide) (by decide)) q608a q608c (g := (mkF m 210 #[jv p0, sv, jv p1, sv, jv p2, sv, jv p3, sv, iv p4, iv (2 : Int32), iv (0 : Int32), iv fA, iv fC, rv b582, rv b587, jv ea, sv, jv eb, sv, iv (1 : Int32)] [(.int (0 : Int32)), (.ref b587)])) rfl (by rw [hml]; rfl) (Steps.refl _) (argsL := [(.int (0 : Int32))]) (rest := []) (lenOf pd_15 rfl) rfl (by show 2 * 0 + _ ≤ _; exact Nat.le_of_eq rfl) (hb hby at_210) (fun _ _ => ⟨rfl, rfl, Nat.le_of_ble_eq_true rfl, Nat.le_of_ble_eq_true rfl⟩)
          dsimp only [Pt.U, Pt.locs, Pt.cells, Pt.slots] at X608 l608 y608 z608 st608 hQ608
          rw [l608, y608, z608] at X608
          obtain ⟨u608, f608, rfl, N608q, V608, O608q⟩ := hQ608
          have N608 := Fr.app N593 N608q
          have V608v : OView Z n0 T608.heap (oS u608 [(.int (0 : Int32)), (.int (0 : Int32)), (.ref f608)] :: oB f608 [] :: oP b587 [(.ref ap588), (.ref as588), (.ref aq588), (.ref ax588), (.ref ak588), (.int (2 : Int32)), (.ref ag588), (.ref ab588), (.int (2 : Int32))] :: oB ag588 Gc :: oB b582 [p0, p1, p2, p3] :: []) := V608
          have Z608 : n0 ≤ T608.heap.size := V608v.big 0 rfl
          refine OGets.after st608 ?_
          obtain ⟨cq609, kq609, q609a, q609b, q609c⟩ := isOf hZ rfl (V608v.exa 0 rfl)
          obtain ⟨_, _, ⟨T609, L609, k609, n609⟩, -, X609, ⟨Lc609, hQ609, l609, y609, z609⟩, st609⟩ := X608.virtualBack hx (y := (⟨"java/util/BitSet", "toLongArray", "()[J"⟩ : MethodName)) (z := (⟨"java/util/BitSet", "toLongArray", "()[J"⟩ : MethodName)) hown (mvT hZ (ow hw 105 rfl)) (mvT hZ (ow hw 106 rfl)) (notFace_of_selects (args := #[]) (mvT hZ (ow hw 108 rfl))) (mvT hZ (ow hw 108 rfl)) (mvT hZ (ow hw 107 rfl)) (by decide) (backOf (W := 0) (rm_tla0 l Z a0 hw [] u608 f608 T608.heap n0 _ Z608  V608v O608q) hZ (ow hw 109 rfl) (ow hw 72 rfl) (by decide) (by decide)) q609a q609c (g := (mkF m 213 #[jv p0, sv, jv p1, sv, jv p2, sv, jv p3, sv, iv p4, iv (2 : Int32), iv (0 : Int32), iv fA, iv fC, rv b582, rv b587, jv ea, sv, jv eb, sv, iv (1 : Int32)] [(.ref u608)])) rfl (by rw [hml]; rfl) (Steps.refl _) (argsL := []) (rest := []) (lenOf pd_16 rfl) rfl (by show 2 * 0 + _ ≤ _; exact Nat.le_of_eq rfl) (hb hby at_213) (fun _ _ => ⟨rfl, rfl, Nat.le_of_ble_eq_true rfl, Nat.le_of_ble_eq_true rfl⟩)
          dsimp only [Pt.U, Pt.locs, Pt.cells, Pt.slots] at X609 l609 y609 z609 st609 hQ609
          rw [l609, y609, z609] at X609
          obtain ⟨e609, rfl, N609q, V609, O609q⟩ := hQ609
          have N609 := Fr.app N608 N609q
          have V609v : OView Z n0 T609.heap (oB e609 [] :: oS u608 [(.int (0 : Int32)), (.int (0 : Int32)), (.ref f608)] :: oB f608 [] :: oP b587 [(.ref ap588), (.ref as588), (.ref aq588), (.ref ax588), (.ref ak588), (.int (2 : Int32)), (.ref ag588), (.ref ab588), (.int (2 : Int32))] :: oB ag588 Gc :: oB b582 [p0, p1, p2, p3] :: []) := V609
          have Z609 : n0 ≤ T609.heap.size := V609v.big 0 rfl
          refine OGets.after st609 ?_
          refine OGets.step (fun _ => XS.lload X609.here hx rfl (hb hby at_216) rfl) ?_
          refine OGets.step (fun _ => XS.lload X609.here hx rfl (hb hby at_218) rfl) ?_
          obtain ⟨_, _, ⟨T610, L610, k610, n610⟩, -, X610, ⟨Lc610, hQ610, l610, y610, z610⟩, st610⟩ := Jvm.LawKit.callS X609 hx (y := (⟨"com/example/inya/inya/SearchPathGatherPinLaw", "matches", "([JJJ)Z"⟩ : MethodName)) hown (mvT hZ (ow hw 110 rfl)) (mvT hZ (ow hw 111 rfl)) (mvT hZ (ow hw 112 rfl)) (mvT hZ (ow hw 113 rfl)) (by decide) (backOf (W := 0) (rm_mt0 l Z a0 hw [] e609 ea eb T609.heap n0 _ Z609 hk1 hk0 V609v) hZ (ow hw 113 rfl) (ow hw 112 rfl) (by decide) (by decide)) (g := (mkF m 220 #[jv p0, sv, jv p1, sv, jv p2, sv, jv p3, sv, iv p4, iv (2 : Int32), iv (0 : Int32), iv fA, iv fC, rv b582, rv b587, jv ea, sv, jv eb, sv, iv (1 : Int32)] [(.long eb), (.long ea), (.ref e609)])) rfl (by rw [hml]; rfl) (argsL := [(.ref e609), (.long ea), (.long eb)]) (rest := []) (lenOf pd_17 rfl) rfl (by show 2 * 0 + _ ≤ _; exact Nat.le_of_eq rfl) (hb hby at_220) (fun _ _ => ⟨rfl, rfl, Nat.le_of_ble_eq_true rfl, Nat.le_of_ble_eq_true rfl⟩)
          dsimp only [Pt.U, Pt.locs, Pt.cells, Pt.slots] at X610 l610 y610 z610 st610 hQ610
          rw [l610, y610, z610] at X610
          obtain ⟨rfl, rfl, e610⟩ := hQ610
          have N610 := Fr.app N609 (Fr.nil n0)
          refine OGets.step st610 ?_
          refine OGets.step (fun _ => XS.ifNo X610.here hx rfl (hb hby at_223) rfl ((if0 _ _).trans (feq (by decide : ¬ ((1 : Int32) = (0 : Int32)))).1)) ?_
          refine OGets.step (fun _ => XS.aload X610.here hx rfl (hb hby at_226) rfl rfl) ?_
          refine OGets.step (fun _ => XS.iconst X610.here hx rfl (hb hby at_228)) ?_
          refine OGets.step (fun _ => XS.iload X610.here hx rfl (hb hby at_229) rfl) ?_
          refine OGets.step (fun _ => XS.isub X610.here hx rfl (hb hby at_231) rfl) ?_
          show OGets p e below _ (T610.setTop (mkF m 232 #[jv p0, sv, jv p1, sv, jv p2, sv, jv p3, sv, iv p4, iv (2 : Int32), iv (0 : Int32), iv fA, iv fC, rv b582, rv b587, jv ea, sv, jv eb, sv, iv (1 : Int32)] [(.int (1 : Int32)), (.ref b587)]))
          have V612_ : OView Z _ T609.heap (oP b587 [(.ref ap588), (.ref as588), (.ref aq588), (.ref ax588), (.ref ak588), (.int (2 : Int32)), (.ref ag588), (.ref ab588), (.int (2 : Int32))] :: oB ag588 Gc :: oB e609 [] :: oS u608 [(.int (0 : Int32)), (.int (0 : Int32)), (.ref f608)] :: oB f608 [] :: oB b582 [p0, p1, p2, p3] :: []) := ((V609v.bring 4 rfl).bring 4 rfl)
          obtain ⟨cq612, kq612, q612a, q612b, q612c⟩ := isOf hZ e610 (V612_.exa 0 rfl)
          obtain ⟨_, _, ⟨T612, L612, k612, n612⟩, -, X612, ⟨Lc612, hQ612, l612, y612, z612⟩, st612⟩ := X610.virtualBack hx (y := (⟨"com/example/inya/inya/SearchPath", "gathered", "(I)Ljava/util/BitSet;"⟩ : MethodName)) (z := (⟨"com/example/inya/inya/SearchPath", "gathered", "(I)Ljava/util/BitSet;"⟩ : MethodName)) hown (mvT hZ (ow hw 48 rfl)) (mvT hZ (ow hw 49 rfl)) (notFace_of_selects (args := #[]) (mvT hZ (ow hw 51 rfl))) (mvT hZ (ow hw 51 rfl)) (mvT hZ (ow hw 50 rfl)) (by decide) (backOf (W := 0) (rm_gtd210 l Z a0 hw [] b587 ap588 as588 aq588 ax588 ak588 ag588 ab588 Gc T609.heap n0 _ Z609 SA lGc (by rw [hGc, hGb, hGa]; rfl) (by rw [hGc, hGb, hGa]; rfl) V612_ O609q) hZ (ow hw 52 rfl) (ow hw 3 rfl) (by decide) (by decide)) q612a q612c (g := (mkF m 232 #[jv p0, sv, jv p1, sv, jv p2, sv, jv p3, sv, iv p4, iv (2 : Int32), iv (0 : Int32), iv fA, iv fC, rv b582, rv b587, jv ea, sv, jv eb, sv, iv (1 : Int32)] [(.int (1 : Int32)), (.ref b587)])) rfl (by rw [hml]; rfl) (Steps.refl _) (argsL := [(.int (1 : Int32))]) (rest := []) (lenOf pd_15 rfl) rfl (by show 2 * 0 + _ ≤ _; exact Nat.le_of_eq rfl) (hb hby at_232) (fun _ _ => ⟨rfl, e610, Nat.le_of_ble_eq_true rfl, Nat.le_of_ble_eq_true rfl⟩)
          dsimp only [Pt.U, Pt.locs, Pt.cells, Pt.slots] at X612 l612 y612 z612 st612 hQ612
          rw [l612, y612, z612] at X612
          obtain ⟨u612, f612, rfl, N612q, V612, O612q⟩ := hQ612
          have N612 := Fr.app N610 N612q
          have V612v : OView Z n0 T612.heap (oS u612 [(.int (0 : Int32)), (.int (0 : Int32)), (.ref f612)] :: oB f612 [] :: oP b587 [(.ref ap588), (.ref as588), (.ref aq588), (.ref ax588), (.ref ak588), (.int (2 : Int32)), (.ref ag588), (.ref ab588), (.int (2 : Int32))] :: oB ag588 Gc :: oB e609 [] :: oS u608 [(.int (0 : Int32)), (.int (0 : Int32)), (.ref f608)] :: oB f608 [] :: oB b582 [p0, p1, p2, p3] :: []) := V612
          have Z612 : n0 ≤ T612.heap.size := V612v.big 0 rfl
          refine OGets.after st612 ?_
          obtain ⟨cq613, kq613, q613a, q613b, q613c⟩ := isOf hZ rfl (V612v.exa 0 rfl)
          obtain ⟨_, _, ⟨T613, L613, k613, n613⟩, -, X613, ⟨Lc613, hQ613, l613, y613, z613⟩, st613⟩ := X612.virtualBack hx (y := (⟨"java/util/BitSet", "toLongArray", "()[J"⟩ : MethodName)) (z := (⟨"java/util/BitSet", "toLongArray", "()[J"⟩ : MethodName)) hown (mvT hZ (ow hw 105 rfl)) (mvT hZ (ow hw 106 rfl)) (notFace_of_selects (args := #[]) (mvT hZ (ow hw 108 rfl))) (mvT hZ (ow hw 108 rfl)) (mvT hZ (ow hw 107 rfl)) (by decide) (backOf (W := 0) (rm_tla0 l Z a0 hw [] u612 f612 T612.heap n0 _ Z612  V612v O612q) hZ (ow hw 109 rfl) (ow hw 72 rfl) (by decide) (by decide)) q613a q613c (g := (mkF m 235 #[jv p0, sv, jv p1, sv, jv p2, sv, jv p3, sv, iv p4, iv (2 : Int32), iv (0 : Int32), iv fA, iv fC, rv b582, rv b587, jv ea, sv, jv eb, sv, iv (1 : Int32)] [(.ref u612)])) rfl (by rw [hml]; rfl) (Steps.refl _) (argsL := []) (rest := []) (lenOf pd_16 rfl) rfl (by show 2 * 0 + _ ≤ _; exact Nat.le_of_eq rfl) (hb hby at_235) (fun _ _ => ⟨rfl, rfl, Nat.le_of_ble_eq_true rfl, Nat.le_of_ble_eq_true rfl⟩)
          dsimp only [Pt.U, Pt.locs, Pt.cells, Pt.slots] at X613 l613 y613 z613 st613 hQ613
          rw [l613, y613, z613] at X613
          obtain ⟨e613, rfl, N613q, V613, O613q⟩ := hQ613
          have N613 := Fr.app N612 N613q
          have V613v : OView Z n0 T613.heap (oB e613 [] :: oS u612 [(.int (0 : Int32)), (.int (0 : Int32)), (.ref f612)] :: oB f612 [] :: oP b587 [(.ref ap588), (.ref as588), (.ref aq588), (.ref ax588), (.ref ak588), (.int (2 : Int32)), (.ref ag588), (.ref ab588), (.int (2 : Int32))] :: oB ag588 Gc :: oB e609 [] :: oS u608 [(.int (0 : Int32)), (.int (0 : Int32)), (.ref f608)] :: oB f608 [] :: oB b582 [p0, p1, p2, p3] :: []) := V613
          have Z613 : n0 ≤ T613.heap.size := V613v.big 0 rfl
          refine OGets.after st613 ?_
          refine OGets.step (fun _ => XS.lconst X613.here hx rfl (hb hby at_238)) ?_
          refine OGets.step (fun _ => XS.lconst X613.here hx rfl (hb hby at_239)) ?_
          obtain ⟨_, _, ⟨T614, L614, k614, n614⟩, -, X614, ⟨Lc614, hQ614, l614, y614, z614⟩, st614⟩ := Jvm.LawKit.callS X613 hx (y := (⟨"com/example/inya/inya/SearchPathGatherPinLaw", "matches", "([JJJ)Z"⟩ : MethodName)) hown (mvT hZ (ow hw 110 rfl)) (mvT hZ (ow hw 111 rfl)) (mvT hZ (ow hw 112 rfl)) (mvT hZ (ow hw 113 rfl)) (by decide) (backOf (W := 0) (rm_mt0 l Z a0 hw [] e613 (0 : Int64) (0 : Int64) T613.heap n0 _ Z613 rfl rfl V613v) hZ (ow hw 113 rfl) (ow hw 112 rfl) (by decide) (by decide)) (g := (mkF m 240 #[jv p0, sv, jv p1, sv, jv p2, sv, jv p3, sv, iv p4, iv (2 : Int32), iv (0 : Int32), iv fA, iv fC, rv b582, rv b587, jv ea, sv, jv eb, sv, iv (1 : Int32)] [(.long (0 : Int64)), (.long (0 : Int64)), (.ref e613)])) rfl (by rw [hml]; rfl) (argsL := [(.ref e613), (.long (0 : Int64)), (.long (0 : Int64))]) (rest := []) (lenOf pd_17 rfl) rfl (by show 2 * 0 + _ ≤ _; exact Nat.le_of_eq rfl) (hb hby at_240) (fun _ _ => ⟨rfl, rfl, Nat.le_of_ble_eq_true rfl, Nat.le_of_ble_eq_true rfl⟩)
          dsimp only [Pt.U, Pt.locs, Pt.cells, Pt.slots] at X614 l614 y614 z614 st614 hQ614
          rw [l614, y614, z614] at X614
          obtain ⟨rfl, rfl, e614⟩ := hQ614
          have N614 := Fr.app N613 (Fr.nil n0)
          refine OGets.step st614 ?_
          refine OGets.step (fun _ => XS.ifNo X614.here hx rfl (hb hby at_243) rfl ((if0 _ _).trans (feq (by decide : ¬ ((1 : Int32) = (0 : Int32)))).1)) ?_
          refine OGets.step (fun _ => XS.iconst X614.here hx rfl (hb hby at_246)) ?_
          refine OGets.step (fun _ => XS.goto X614.here hx rfl (pc0 := 247) (pc' := 251) rfl (hb hby at_247) (by decide) (by decide)) ?_
          refine OGets.retN X614 hx hlk (t := .boolean) Bd.returns (by simp) (hb hby at_251) (Nat.le_of_ble_eq_true rfl) (Nat.le_of_ble_eq_true rfl) ?_
          exact ⟨rfl, N614⟩
        · show OGets p e below _ (T593.setTop (mkF m 206 #[jv p0, sv, jv p1, sv, jv p2, sv, jv p3, sv, iv p4, iv (2 : Int32), iv (0 : Int32), iv fA, iv fC, rv b582, rv b587, jv ea, sv, jv eb, sv, iv (1 : Int32)] []))
          refine OGets.step (fun _ => XS.aload X593.here hx rfl (hb hby at_206) rfl rfl) ?_
          refine OGets.step (fun _ => XS.iload X593.here hx rfl (hb hby at_208) rfl) ?_
          obtain ⟨cq616, kq616, q616a, q616b, q616c⟩ := isOf hZ rfl (V593v.exa 0 rfl)
          obtain ⟨_, _, ⟨T616, L616, k616, n616⟩, -, X616, ⟨Lc616, hQ616, l616, y616, z616⟩, st616⟩ := X593.virtualBack hx (y := (⟨"com/example/inya/inya/SearchPath", "gathered", "(I)Ljava/util/BitSet;"⟩ : MethodName)) (z := (⟨"com/example/inya/inya/SearchPath", "gathered", "(I)Ljava/util/BitSet;"⟩ : MethodName)) hown (mvT hZ (ow hw 48 rfl)) (mvT hZ (ow hw 49 rfl)) (notFace_of_selects (args := #[]) (mvT hZ (ow hw 51 rfl))) (mvT hZ (ow hw 51 rfl)) (mvT hZ (ow hw 50 rfl)) (by decide) (backOf (W := 0) (rm_gtd201 l Z a0 hw [] b587 ap588 as588 aq588 ax588 ak588 ag588 ab588 Gc T593.heap n0 _ Z593 SA lGc (by rw [hx0]; exact hk0) (by rw [hx1]; exact hk1) V593v O593q) hZ (ow hw 52 rfl) (ow hw 3 rfl) (by decide) (by decide)) q616a q616c (g := (mkF m 210 #[jv p0, sv, jv p1, sv, jv p2, sv, jv p3, sv, iv p4, iv (2 : Int32), iv (0 : Int32), iv fA, iv fC, rv b582, rv b587, jv ea, sv, jv eb, sv, iv (1 : Int32)] [(.int (0 : Int32)), (.ref b587)])) rfl (by rw [hml]; rfl) (Steps.refl _) (argsL := [(.int (0 : Int32))]) (rest := []) (lenOf pd_15 rfl) rfl (by show 2 * 0 + _ ≤ _; exact Nat.le_of_eq rfl) (hb hby at_210) (fun _ _ => ⟨rfl, rfl, Nat.le_of_ble_eq_true rfl, Nat.le_of_ble_eq_true rfl⟩)
          dsimp only [Pt.U, Pt.locs, Pt.cells, Pt.slots] at X616 l616 y616 z616 st616 hQ616
          rw [l616, y616, z616] at X616
          obtain ⟨u616, f616, rfl, N616q, V616, O616q⟩ := hQ616
          have N616 := Fr.app N593 N616q
          have V616v : OView Z n0 T616.heap (oS u616 [(.int (1 : Int32)), (.int (0 : Int32)), (.ref f616)] :: oB f616 [(gj Gc (0 : Int32))] :: oP b587 [(.ref ap588), (.ref as588), (.ref aq588), (.ref ax588), (.ref ak588), (.int (2 : Int32)), (.ref ag588), (.ref ab588), (.int (2 : Int32))] :: oB ag588 Gc :: oB b582 [p0, p1, p2, p3] :: []) := V616
          have Z616 : n0 ≤ T616.heap.size := V616v.big 0 rfl
          refine OGets.after st616 ?_
          obtain ⟨cq617, kq617, q617a, q617b, q617c⟩ := isOf hZ rfl (V616v.exa 0 rfl)
          obtain ⟨_, _, ⟨T617, L617, k617, n617⟩, -, X617, ⟨Lc617, hQ617, l617, y617, z617⟩, st617⟩ := X616.virtualBack hx (y := (⟨"java/util/BitSet", "toLongArray", "()[J"⟩ : MethodName)) (z := (⟨"java/util/BitSet", "toLongArray", "()[J"⟩ : MethodName)) hown (mvT hZ (ow hw 105 rfl)) (mvT hZ (ow hw 106 rfl)) (notFace_of_selects (args := #[]) (mvT hZ (ow hw 108 rfl))) (mvT hZ (ow hw 108 rfl)) (mvT hZ (ow hw 107 rfl)) (by decide) (backOf (W := 0) (rm_tla1 l Z a0 hw [] u616 f616 (gj Gc (0 : Int32)) T616.heap n0 _ Z616  V616v O616q) hZ (ow hw 109 rfl) (ow hw 72 rfl) (by decide) (by decide)) q617a q617c (g := (mkF m 213 #[jv p0, sv, jv p1, sv, jv p2, sv, jv p3, sv, iv p4, iv (2 : Int32), iv (0 : Int32), iv fA, iv fC, rv b582, rv b587, jv ea, sv, jv eb, sv, iv (1 : Int32)] [(.ref u616)])) rfl (by rw [hml]; rfl) (Steps.refl _) (argsL := []) (rest := []) (lenOf pd_16 rfl) rfl (by show 2 * 0 + _ ≤ _; exact Nat.le_of_eq rfl) (hb hby at_213) (fun _ _ => ⟨rfl, rfl, Nat.le_of_ble_eq_true rfl, Nat.le_of_ble_eq_true rfl⟩)
          dsimp only [Pt.U, Pt.locs, Pt.cells, Pt.slots] at X617 l617 y617 z617 st617 hQ617
          rw [l617, y617, z617] at X617
          obtain ⟨e617, rfl, N617q, V617, O617q⟩ := hQ617
          have N617 := Fr.app N616 N617q
          have V617v : OView Z n0 T617.heap (oB e617 [(gj Gc (0 : Int32))] :: oS u616 [(.int (1 : Int32)), (.int (0 : Int32)), (.ref f616)] :: oB f616 [(gj Gc (0 : Int32))] :: oP b587 [(.ref ap588), (.ref as588), (.ref aq588), (.ref ax588), (.ref ak588), (.int (2 : Int32)), (.ref ag588), (.ref ab588), (.int (2 : Int32))] :: oB ag588 Gc :: oB b582 [p0, p1, p2, p3] :: []) := V617
          have Z617 : n0 ≤ T617.heap.size := V617v.big 0 rfl
          refine OGets.after st617 ?_
          refine OGets.step (fun _ => XS.lload X617.here hx rfl (hb hby at_216) rfl) ?_
          refine OGets.step (fun _ => XS.lload X617.here hx rfl (hb hby at_218) rfl) ?_
          obtain ⟨_, _, ⟨T618, L618, k618, n618⟩, -, X618, ⟨Lc618, hQ618, l618, y618, z618⟩, st618⟩ := Jvm.LawKit.callS X617 hx (y := (⟨"com/example/inya/inya/SearchPathGatherPinLaw", "matches", "([JJJ)Z"⟩ : MethodName)) hown (mvT hZ (ow hw 110 rfl)) (mvT hZ (ow hw 111 rfl)) (mvT hZ (ow hw 112 rfl)) (mvT hZ (ow hw 113 rfl)) (by decide) (backOf (W := 0) (rm_mt1 l Z a0 hw [] e617 ea eb (gj Gc (0 : Int32)) T617.heap n0 _ Z617 hk1 hk0 hx0 V617v) hZ (ow hw 113 rfl) (ow hw 112 rfl) (by decide) (by decide)) (g := (mkF m 220 #[jv p0, sv, jv p1, sv, jv p2, sv, jv p3, sv, iv p4, iv (2 : Int32), iv (0 : Int32), iv fA, iv fC, rv b582, rv b587, jv ea, sv, jv eb, sv, iv (1 : Int32)] [(.long eb), (.long ea), (.ref e617)])) rfl (by rw [hml]; rfl) (argsL := [(.ref e617), (.long ea), (.long eb)]) (rest := []) (lenOf pd_17 rfl) rfl (by show 2 * 0 + _ ≤ _; exact Nat.le_of_eq rfl) (hb hby at_220) (fun _ _ => ⟨rfl, rfl, Nat.le_of_ble_eq_true rfl, Nat.le_of_ble_eq_true rfl⟩)
          dsimp only [Pt.U, Pt.locs, Pt.cells, Pt.slots] at X618 l618 y618 z618 st618 hQ618
          rw [l618, y618, z618] at X618
          obtain ⟨rfl, rfl, e618⟩ := hQ618
          have N618 := Fr.app N617 (Fr.nil n0)
          refine OGets.step st618 ?_
          refine OGets.step (fun _ => XS.ifNo X618.here hx rfl (hb hby at_223) rfl ((if0 _ _).trans (feq (by decide : ¬ ((1 : Int32) = (0 : Int32)))).1)) ?_
          refine OGets.step (fun _ => XS.aload X618.here hx rfl (hb hby at_226) rfl rfl) ?_
          refine OGets.step (fun _ => XS.iconst X618.here hx rfl (hb hby at_228)) ?_
          refine OGets.step (fun _ => XS.iload X618.here hx rfl (hb hby at_229) rfl) ?_
          refine OGets.step (fun _ => XS.isub X618.here hx rfl (hb hby at_231) rfl) ?_
          show OGets p e below _ (T618.setTop (mkF m 232 #[jv p0, sv, jv p1, sv, jv p2, sv, jv p3, sv, iv p4, iv (2 : Int32), iv (0 : Int32), iv fA, iv fC, rv b582, rv b587, jv ea, sv, jv eb, sv, iv (1 : Int32)] [(.int (1 : Int32)), (.ref b587)]))
          have V620_ : OView Z _ T617.heap (oP b587 [(.ref ap588), (.ref as588), (.ref aq588), (.ref ax588), (.ref ak588), (.int (2 : Int32)), (.ref ag588), (.ref ab588), (.int (2 : Int32))] :: oB ag588 Gc :: oB e617 [(gj Gc (0 : Int32))] :: oS u616 [(.int (1 : Int32)), (.int (0 : Int32)), (.ref f616)] :: oB f616 [(gj Gc (0 : Int32))] :: oB b582 [p0, p1, p2, p3] :: []) := ((V617v.bring 4 rfl).bring 4 rfl)
          obtain ⟨cq620, kq620, q620a, q620b, q620c⟩ := isOf hZ e618 (V620_.exa 0 rfl)
          obtain ⟨_, _, ⟨T620, L620, k620, n620⟩, -, X620, ⟨Lc620, hQ620, l620, y620, z620⟩, st620⟩ := X618.virtualBack hx (y := (⟨"com/example/inya/inya/SearchPath", "gathered", "(I)Ljava/util/BitSet;"⟩ : MethodName)) (z := (⟨"com/example/inya/inya/SearchPath", "gathered", "(I)Ljava/util/BitSet;"⟩ : MethodName)) hown (mvT hZ (ow hw 48 rfl)) (mvT hZ (ow hw 49 rfl)) (notFace_of_selects (args := #[]) (mvT hZ (ow hw 51 rfl))) (mvT hZ (ow hw 51 rfl)) (mvT hZ (ow hw 50 rfl)) (by decide) (backOf (W := 0) (rm_gtd210 l Z a0 hw [] b587 ap588 as588 aq588 ax588 ak588 ag588 ab588 Gc T617.heap n0 _ Z617 SA lGc (by rw [hGc, hGb, hGa]; rfl) (by rw [hGc, hGb, hGa]; rfl) V620_ O617q) hZ (ow hw 52 rfl) (ow hw 3 rfl) (by decide) (by decide)) q620a q620c (g := (mkF m 232 #[jv p0, sv, jv p1, sv, jv p2, sv, jv p3, sv, iv p4, iv (2 : Int32), iv (0 : Int32), iv fA, iv fC, rv b582, rv b587, jv ea, sv, jv eb, sv, iv (1 : Int32)] [(.int (1 : Int32)), (.ref b587)])) rfl (by rw [hml]; rfl) (Steps.refl _) (argsL := [(.int (1 : Int32))]) (rest := []) (lenOf pd_15 rfl) rfl (by show 2 * 0 + _ ≤ _; exact Nat.le_of_eq rfl) (hb hby at_232) (fun _ _ => ⟨rfl, e618, Nat.le_of_ble_eq_true rfl, Nat.le_of_ble_eq_true rfl⟩)
          dsimp only [Pt.U, Pt.locs, Pt.cells, Pt.slots] at X620 l620 y620 z620 st620 hQ620
          rw [l620, y620, z620] at X620
          obtain ⟨u620, f620, rfl, N620q, V620, O620q⟩ := hQ620
          have N620 := Fr.app N618 N620q
          have V620v : OView Z n0 T620.heap (oS u620 [(.int (0 : Int32)), (.int (0 : Int32)), (.ref f620)] :: oB f620 [] :: oP b587 [(.ref ap588), (.ref as588), (.ref aq588), (.ref ax588), (.ref ak588), (.int (2 : Int32)), (.ref ag588), (.ref ab588), (.int (2 : Int32))] :: oB ag588 Gc :: oB e617 [(gj Gc (0 : Int32))] :: oS u616 [(.int (1 : Int32)), (.int (0 : Int32)), (.ref f616)] :: oB f616 [(gj Gc (0 : Int32))] :: oB b582 [p0, p1, p2, p3] :: []) := V620
          have Z620 : n0 ≤ T620.heap.size := V620v.big 0 rfl
          refine OGets.after st620 ?_
          obtain ⟨cq621, kq621, q621a, q621b, q621c⟩ := isOf hZ rfl (V620v.exa 0 rfl)
          obtain ⟨_, _, ⟨T621, L621, k621, n621⟩, -, X621, ⟨Lc621, hQ621, l621, y621, z621⟩, st621⟩ := X620.virtualBack hx (y := (⟨"java/util/BitSet", "toLongArray", "()[J"⟩ : MethodName)) (z := (⟨"java/util/BitSet", "toLongArray", "()[J"⟩ : MethodName)) hown (mvT hZ (ow hw 105 rfl)) (mvT hZ (ow hw 106 rfl)) (notFace_of_selects (args := #[]) (mvT hZ (ow hw 108 rfl))) (mvT hZ (ow hw 108 rfl)) (mvT hZ (ow hw 107 rfl)) (by decide) (backOf (W := 0) (rm_tla0 l Z a0 hw [] u620 f620 T620.heap n0 _ Z620  V620v O620q) hZ (ow hw 109 rfl) (ow hw 72 rfl) (by decide) (by decide)) q621a q621c (g := (mkF m 235 #[jv p0, sv, jv p1, sv, jv p2, sv, jv p3, sv, iv p4, iv (2 : Int32), iv (0 : Int32), iv fA, iv fC, rv b582, rv b587, jv ea, sv, jv eb, sv, iv (1 : Int32)] [(.ref u620)])) rfl (by rw [hml]; rfl) (Steps.refl _) (argsL := []) (rest := []) (lenOf pd_16 rfl) rfl (by show 2 * 0 + _ ≤ _; exact Nat.le_of_eq rfl) (hb hby at_235) (fun _ _ => ⟨rfl, rfl, Nat.le_of_ble_eq_true rfl, Nat.le_of_ble_eq_true rfl⟩)
          dsimp only [Pt.U, Pt.locs, Pt.cells, Pt.slots] at X621 l621 y621 z621 st621 hQ621
          rw [l621, y621, z621] at X621
          obtain ⟨e621, rfl, N621q, V621, O621q⟩ := hQ621
          have N621 := Fr.app N620 N621q
          have V621v : OView Z n0 T621.heap (oB e621 [] :: oS u620 [(.int (0 : Int32)), (.int (0 : Int32)), (.ref f620)] :: oB f620 [] :: oP b587 [(.ref ap588), (.ref as588), (.ref aq588), (.ref ax588), (.ref ak588), (.int (2 : Int32)), (.ref ag588), (.ref ab588), (.int (2 : Int32))] :: oB ag588 Gc :: oB e617 [(gj Gc (0 : Int32))] :: oS u616 [(.int (1 : Int32)), (.int (0 : Int32)), (.ref f616)] :: oB f616 [(gj Gc (0 : Int32))] :: oB b582 [p0, p1, p2, p3] :: []) := V621
          have Z621 : n0 ≤ T621.heap.size := V621v.big 0 rfl
          refine OGets.after st621 ?_
          refine OGets.step (fun _ => XS.lconst X621.here hx rfl (hb hby at_238)) ?_
          refine OGets.step (fun _ => XS.lconst X621.here hx rfl (hb hby at_239)) ?_
          obtain ⟨_, _, ⟨T622, L622, k622, n622⟩, -, X622, ⟨Lc622, hQ622, l622, y622, z622⟩, st622⟩ := Jvm.LawKit.callS X621 hx (y := (⟨"com/example/inya/inya/SearchPathGatherPinLaw", "matches", "([JJJ)Z"⟩ : MethodName)) hown (mvT hZ (ow hw 110 rfl)) (mvT hZ (ow hw 111 rfl)) (mvT hZ (ow hw 112 rfl)) (mvT hZ (ow hw 113 rfl)) (by decide) (backOf (W := 0) (rm_mt0 l Z a0 hw [] e621 (0 : Int64) (0 : Int64) T621.heap n0 _ Z621 rfl rfl V621v) hZ (ow hw 113 rfl) (ow hw 112 rfl) (by decide) (by decide)) (g := (mkF m 240 #[jv p0, sv, jv p1, sv, jv p2, sv, jv p3, sv, iv p4, iv (2 : Int32), iv (0 : Int32), iv fA, iv fC, rv b582, rv b587, jv ea, sv, jv eb, sv, iv (1 : Int32)] [(.long (0 : Int64)), (.long (0 : Int64)), (.ref e621)])) rfl (by rw [hml]; rfl) (argsL := [(.ref e621), (.long (0 : Int64)), (.long (0 : Int64))]) (rest := []) (lenOf pd_17 rfl) rfl (by show 2 * 0 + _ ≤ _; exact Nat.le_of_eq rfl) (hb hby at_240) (fun _ _ => ⟨rfl, rfl, Nat.le_of_ble_eq_true rfl, Nat.le_of_ble_eq_true rfl⟩)
          dsimp only [Pt.U, Pt.locs, Pt.cells, Pt.slots] at X622 l622 y622 z622 st622 hQ622
          rw [l622, y622, z622] at X622
          obtain ⟨rfl, rfl, e622⟩ := hQ622
          have N622 := Fr.app N621 (Fr.nil n0)
          refine OGets.step st622 ?_
          refine OGets.step (fun _ => XS.ifNo X622.here hx rfl (hb hby at_243) rfl ((if0 _ _).trans (feq (by decide : ¬ ((1 : Int32) = (0 : Int32)))).1)) ?_
          refine OGets.step (fun _ => XS.iconst X622.here hx rfl (hb hby at_246)) ?_
          refine OGets.step (fun _ => XS.goto X622.here hx rfl (pc0 := 247) (pc' := 251) rfl (hb hby at_247) (by decide) (by decide)) ?_
          refine OGets.retN X622 hx hlk (t := .boolean) Bd.returns (by simp) (hb hby at_251) (Nat.le_of_ble_eq_true rfl) (Nat.le_of_ble_eq_true rfl) ?_
          exact ⟨rfl, N622⟩
      · show OGets p e below _ (T593.setTop (mkF m 206 #[jv p0, sv, jv p1, sv, jv p2, sv, jv p3, sv, iv p4, iv (2 : Int32), iv (0 : Int32), iv fA, iv fC, rv b582, rv b587, jv ea, sv, jv eb, sv, iv (1 : Int32)] []))
        refine OGets.step (fun _ => XS.aload X593.here hx rfl (hb hby at_206) rfl rfl) ?_
        refine OGets.step (fun _ => XS.iload X593.here hx rfl (hb hby at_208) rfl) ?_
        obtain ⟨cq624, kq624, q624a, q624b, q624c⟩ := isOf hZ rfl (V593v.exa 0 rfl)
        obtain ⟨_, _, ⟨T624, L624, k624, n624⟩, -, X624, ⟨Lc624, hQ624, l624, y624, z624⟩, st624⟩ := X593.virtualBack hx (y := (⟨"com/example/inya/inya/SearchPath", "gathered", "(I)Ljava/util/BitSet;"⟩ : MethodName)) (z := (⟨"com/example/inya/inya/SearchPath", "gathered", "(I)Ljava/util/BitSet;"⟩ : MethodName)) hown (mvT hZ (ow hw 48 rfl)) (mvT hZ (ow hw 49 rfl)) (notFace_of_selects (args := #[]) (mvT hZ (ow hw 51 rfl))) (mvT hZ (ow hw 51 rfl)) (mvT hZ (ow hw 50 rfl)) (by decide) (backOf (W := 0) (rm_gtd202 l Z a0 hw [] b587 ap588 as588 aq588 ax588 ak588 ag588 ab588 Gc T593.heap n0 _ Z593 SA lGc (by rw [hx1]; exact hk1) V593v O593q) hZ (ow hw 52 rfl) (ow hw 3 rfl) (by decide) (by decide)) q624a q624c (g := (mkF m 210 #[jv p0, sv, jv p1, sv, jv p2, sv, jv p3, sv, iv p4, iv (2 : Int32), iv (0 : Int32), iv fA, iv fC, rv b582, rv b587, jv ea, sv, jv eb, sv, iv (1 : Int32)] [(.int (0 : Int32)), (.ref b587)])) rfl (by rw [hml]; rfl) (Steps.refl _) (argsL := [(.int (0 : Int32))]) (rest := []) (lenOf pd_15 rfl) rfl (by show 2 * 0 + _ ≤ _; exact Nat.le_of_eq rfl) (hb hby at_210) (fun _ _ => ⟨rfl, rfl, Nat.le_of_ble_eq_true rfl, Nat.le_of_ble_eq_true rfl⟩)
        dsimp only [Pt.U, Pt.locs, Pt.cells, Pt.slots] at X624 l624 y624 z624 st624 hQ624
        rw [l624, y624, z624] at X624
        obtain ⟨u624, f624, rfl, N624q, V624, O624q⟩ := hQ624
        have N624 := Fr.app N593 N624q
        have V624v : OView Z n0 T624.heap (oS u624 [(.int (2 : Int32)), (.int (0 : Int32)), (.ref f624)] :: oB f624 [(gj Gc (0 : Int32)), (gj Gc (1 : Int32))] :: oP b587 [(.ref ap588), (.ref as588), (.ref aq588), (.ref ax588), (.ref ak588), (.int (2 : Int32)), (.ref ag588), (.ref ab588), (.int (2 : Int32))] :: oB ag588 Gc :: oB b582 [p0, p1, p2, p3] :: []) := V624
        have Z624 : n0 ≤ T624.heap.size := V624v.big 0 rfl
        refine OGets.after st624 ?_
        obtain ⟨cq625, kq625, q625a, q625b, q625c⟩ := isOf hZ rfl (V624v.exa 0 rfl)
        obtain ⟨_, _, ⟨T625, L625, k625, n625⟩, -, X625, ⟨Lc625, hQ625, l625, y625, z625⟩, st625⟩ := X624.virtualBack hx (y := (⟨"java/util/BitSet", "toLongArray", "()[J"⟩ : MethodName)) (z := (⟨"java/util/BitSet", "toLongArray", "()[J"⟩ : MethodName)) hown (mvT hZ (ow hw 105 rfl)) (mvT hZ (ow hw 106 rfl)) (notFace_of_selects (args := #[]) (mvT hZ (ow hw 108 rfl))) (mvT hZ (ow hw 108 rfl)) (mvT hZ (ow hw 107 rfl)) (by decide) (backOf (W := 0) (rm_tla2 l Z a0 hw [] u624 f624 (gj Gc (0 : Int32)) (gj Gc (1 : Int32)) T624.heap n0 _ Z624  V624v O624q) hZ (ow hw 109 rfl) (ow hw 72 rfl) (by decide) (by decide)) q625a q625c (g := (mkF m 213 #[jv p0, sv, jv p1, sv, jv p2, sv, jv p3, sv, iv p4, iv (2 : Int32), iv (0 : Int32), iv fA, iv fC, rv b582, rv b587, jv ea, sv, jv eb, sv, iv (1 : Int32)] [(.ref u624)])) rfl (by rw [hml]; rfl) (Steps.refl _) (argsL := []) (rest := []) (lenOf pd_16 rfl) rfl (by show 2 * 0 + _ ≤ _; exact Nat.le_of_eq rfl) (hb hby at_213) (fun _ _ => ⟨rfl, rfl, Nat.le_of_ble_eq_true rfl, Nat.le_of_ble_eq_true rfl⟩)
        dsimp only [Pt.U, Pt.locs, Pt.cells, Pt.slots] at X625 l625 y625 z625 st625 hQ625
        rw [l625, y625, z625] at X625
        obtain ⟨e625, rfl, N625q, V625, O625q⟩ := hQ625
        have N625 := Fr.app N624 N625q
        have V625v : OView Z n0 T625.heap (oB e625 [(gj Gc (0 : Int32)), (gj Gc (1 : Int32))] :: oS u624 [(.int (2 : Int32)), (.int (0 : Int32)), (.ref f624)] :: oB f624 [(gj Gc (0 : Int32)), (gj Gc (1 : Int32))] :: oP b587 [(.ref ap588), (.ref as588), (.ref aq588), (.ref ax588), (.ref ak588), (.int (2 : Int32)), (.ref ag588), (.ref ab588), (.int (2 : Int32))] :: oB ag588 Gc :: oB b582 [p0, p1, p2, p3] :: []) := V625
        have Z625 : n0 ≤ T625.heap.size := V625v.big 0 rfl
        refine OGets.after st625 ?_
        refine OGets.step (fun _ => XS.lload X625.here hx rfl (hb hby at_216) rfl) ?_
        refine OGets.step (fun _ => XS.lload X625.here hx rfl (hb hby at_218) rfl) ?_
        obtain ⟨_, _, ⟨T626, L626, k626, n626⟩, -, X626, ⟨Lc626, hQ626, l626, y626, z626⟩, st626⟩ := Jvm.LawKit.callS X625 hx (y := (⟨"com/example/inya/inya/SearchPathGatherPinLaw", "matches", "([JJJ)Z"⟩ : MethodName)) hown (mvT hZ (ow hw 110 rfl)) (mvT hZ (ow hw 111 rfl)) (mvT hZ (ow hw 112 rfl)) (mvT hZ (ow hw 113 rfl)) (by decide) (backOf (W := 0) (rm_mt2 l Z a0 hw [] e625 ea eb (gj Gc (0 : Int32)) (gj Gc (1 : Int32)) T625.heap n0 _ Z625 hk1 hx0 hx1 V625v) hZ (ow hw 113 rfl) (ow hw 112 rfl) (by decide) (by decide)) (g := (mkF m 220 #[jv p0, sv, jv p1, sv, jv p2, sv, jv p3, sv, iv p4, iv (2 : Int32), iv (0 : Int32), iv fA, iv fC, rv b582, rv b587, jv ea, sv, jv eb, sv, iv (1 : Int32)] [(.long eb), (.long ea), (.ref e625)])) rfl (by rw [hml]; rfl) (argsL := [(.ref e625), (.long ea), (.long eb)]) (rest := []) (lenOf pd_17 rfl) rfl (by show 2 * 0 + _ ≤ _; exact Nat.le_of_eq rfl) (hb hby at_220) (fun _ _ => ⟨rfl, rfl, Nat.le_of_ble_eq_true rfl, Nat.le_of_ble_eq_true rfl⟩)
        dsimp only [Pt.U, Pt.locs, Pt.cells, Pt.slots] at X626 l626 y626 z626 st626 hQ626
        rw [l626, y626, z626] at X626
        obtain ⟨rfl, rfl, e626⟩ := hQ626
        have N626 := Fr.app N625 (Fr.nil n0)
        refine OGets.step st626 ?_
        refine OGets.step (fun _ => XS.ifNo X626.here hx rfl (hb hby at_223) rfl ((if0 _ _).trans (feq (by decide : ¬ ((1 : Int32) = (0 : Int32)))).1)) ?_
        refine OGets.step (fun _ => XS.aload X626.here hx rfl (hb hby at_226) rfl rfl) ?_
        refine OGets.step (fun _ => XS.iconst X626.here hx rfl (hb hby at_228)) ?_
        refine OGets.step (fun _ => XS.iload X626.here hx rfl (hb hby at_229) rfl) ?_
        refine OGets.step (fun _ => XS.isub X626.here hx rfl (hb hby at_231) rfl) ?_
        show OGets p e below _ (T626.setTop (mkF m 232 #[jv p0, sv, jv p1, sv, jv p2, sv, jv p3, sv, iv p4, iv (2 : Int32), iv (0 : Int32), iv fA, iv fC, rv b582, rv b587, jv ea, sv, jv eb, sv, iv (1 : Int32)] [(.int (1 : Int32)), (.ref b587)]))
        have V628_ : OView Z _ T625.heap (oP b587 [(.ref ap588), (.ref as588), (.ref aq588), (.ref ax588), (.ref ak588), (.int (2 : Int32)), (.ref ag588), (.ref ab588), (.int (2 : Int32))] :: oB ag588 Gc :: oB e625 [(gj Gc (0 : Int32)), (gj Gc (1 : Int32))] :: oS u624 [(.int (2 : Int32)), (.int (0 : Int32)), (.ref f624)] :: oB f624 [(gj Gc (0 : Int32)), (gj Gc (1 : Int32))] :: oB b582 [p0, p1, p2, p3] :: []) := ((V625v.bring 4 rfl).bring 4 rfl)
        obtain ⟨cq628, kq628, q628a, q628b, q628c⟩ := isOf hZ e626 (V628_.exa 0 rfl)
        obtain ⟨_, _, ⟨T628, L628, k628, n628⟩, -, X628, ⟨Lc628, hQ628, l628, y628, z628⟩, st628⟩ := X626.virtualBack hx (y := (⟨"com/example/inya/inya/SearchPath", "gathered", "(I)Ljava/util/BitSet;"⟩ : MethodName)) (z := (⟨"com/example/inya/inya/SearchPath", "gathered", "(I)Ljava/util/BitSet;"⟩ : MethodName)) hown (mvT hZ (ow hw 48 rfl)) (mvT hZ (ow hw 49 rfl)) (notFace_of_selects (args := #[]) (mvT hZ (ow hw 51 rfl))) (mvT hZ (ow hw 51 rfl)) (mvT hZ (ow hw 50 rfl)) (by decide) (backOf (W := 0) (rm_gtd210 l Z a0 hw [] b587 ap588 as588 aq588 ax588 ak588 ag588 ab588 Gc T625.heap n0 _ Z625 SA lGc (by rw [hGc, hGb, hGa]; rfl) (by rw [hGc, hGb, hGa]; rfl) V628_ O625q) hZ (ow hw 52 rfl) (ow hw 3 rfl) (by decide) (by decide)) q628a q628c (g := (mkF m 232 #[jv p0, sv, jv p1, sv, jv p2, sv, jv p3, sv, iv p4, iv (2 : Int32), iv (0 : Int32), iv fA, iv fC, rv b582, rv b587, jv ea, sv, jv eb, sv, iv (1 : Int32)] [(.int (1 : Int32)), (.ref b587)])) rfl (by rw [hml]; rfl) (Steps.refl _) (argsL := [(.int (1 : Int32))]) (rest := []) (lenOf pd_15 rfl) rfl (by show 2 * 0 + _ ≤ _; exact Nat.le_of_eq rfl) (hb hby at_232) (fun _ _ => ⟨rfl, e626, Nat.le_of_ble_eq_true rfl, Nat.le_of_ble_eq_true rfl⟩)
        dsimp only [Pt.U, Pt.locs, Pt.cells, Pt.slots] at X628 l628 y628 z628 st628 hQ628
        rw [l628, y628, z628] at X628
        obtain ⟨u628, f628, rfl, N628q, V628, O628q⟩ := hQ628
        have N628 := Fr.app N626 N628q
        have V628v : OView Z n0 T628.heap (oS u628 [(.int (0 : Int32)), (.int (0 : Int32)), (.ref f628)] :: oB f628 [] :: oP b587 [(.ref ap588), (.ref as588), (.ref aq588), (.ref ax588), (.ref ak588), (.int (2 : Int32)), (.ref ag588), (.ref ab588), (.int (2 : Int32))] :: oB ag588 Gc :: oB e625 [(gj Gc (0 : Int32)), (gj Gc (1 : Int32))] :: oS u624 [(.int (2 : Int32)), (.int (0 : Int32)), (.ref f624)] :: oB f624 [(gj Gc (0 : Int32)), (gj Gc (1 : Int32))] :: oB b582 [p0, p1, p2, p3] :: []) := V628
        have Z628 : n0 ≤ T628.heap.size := V628v.big 0 rfl
        refine OGets.after st628 ?_
        obtain ⟨cq629, kq629, q629a, q629b, q629c⟩ := isOf hZ rfl (V628v.exa 0 rfl)
        obtain ⟨_, _, ⟨T629, L629, k629, n629⟩, -, X629, ⟨Lc629, hQ629, l629, y629, z629⟩, st629⟩ := X628.virtualBack hx (y := (⟨"java/util/BitSet", "toLongArray", "()[J"⟩ : MethodName)) (z := (⟨"java/util/BitSet", "toLongArray", "()[J"⟩ : MethodName)) hown (mvT hZ (ow hw 105 rfl)) (mvT hZ (ow hw 106 rfl)) (notFace_of_selects (args := #[]) (mvT hZ (ow hw 108 rfl))) (mvT hZ (ow hw 108 rfl)) (mvT hZ (ow hw 107 rfl)) (by decide) (backOf (W := 0) (rm_tla0 l Z a0 hw [] u628 f628 T628.heap n0 _ Z628  V628v O628q) hZ (ow hw 109 rfl) (ow hw 72 rfl) (by decide) (by decide)) q629a q629c (g := (mkF m 235 #[jv p0, sv, jv p1, sv, jv p2, sv, jv p3, sv, iv p4, iv (2 : Int32), iv (0 : Int32), iv fA, iv fC, rv b582, rv b587, jv ea, sv, jv eb, sv, iv (1 : Int32)] [(.ref u628)])) rfl (by rw [hml]; rfl) (Steps.refl _) (argsL := []) (rest := []) (lenOf pd_16 rfl) rfl (by show 2 * 0 + _ ≤ _; exact Nat.le_of_eq rfl) (hb hby at_235) (fun _ _ => ⟨rfl, rfl, Nat.le_of_ble_eq_true rfl, Nat.le_of_ble_eq_true rfl⟩)
        dsimp only [Pt.U, Pt.locs, Pt.cells, Pt.slots] at X629 l629 y629 z629 st629 hQ629
        rw [l629, y629, z629] at X629
        obtain ⟨e629, rfl, N629q, V629, O629q⟩ := hQ629
        have N629 := Fr.app N628 N629q
        have V629v : OView Z n0 T629.heap (oB e629 [] :: oS u628 [(.int (0 : Int32)), (.int (0 : Int32)), (.ref f628)] :: oB f628 [] :: oP b587 [(.ref ap588), (.ref as588), (.ref aq588), (.ref ax588), (.ref ak588), (.int (2 : Int32)), (.ref ag588), (.ref ab588), (.int (2 : Int32))] :: oB ag588 Gc :: oB e625 [(gj Gc (0 : Int32)), (gj Gc (1 : Int32))] :: oS u624 [(.int (2 : Int32)), (.int (0 : Int32)), (.ref f624)] :: oB f624 [(gj Gc (0 : Int32)), (gj Gc (1 : Int32))] :: oB b582 [p0, p1, p2, p3] :: []) := V629
        have Z629 : n0 ≤ T629.heap.size := V629v.big 0 rfl
        refine OGets.after st629 ?_
        refine OGets.step (fun _ => XS.lconst X629.here hx rfl (hb hby at_238)) ?_
        refine OGets.step (fun _ => XS.lconst X629.here hx rfl (hb hby at_239)) ?_
        obtain ⟨_, _, ⟨T630, L630, k630, n630⟩, -, X630, ⟨Lc630, hQ630, l630, y630, z630⟩, st630⟩ := Jvm.LawKit.callS X629 hx (y := (⟨"com/example/inya/inya/SearchPathGatherPinLaw", "matches", "([JJJ)Z"⟩ : MethodName)) hown (mvT hZ (ow hw 110 rfl)) (mvT hZ (ow hw 111 rfl)) (mvT hZ (ow hw 112 rfl)) (mvT hZ (ow hw 113 rfl)) (by decide) (backOf (W := 0) (rm_mt0 l Z a0 hw [] e629 (0 : Int64) (0 : Int64) T629.heap n0 _ Z629 rfl rfl V629v) hZ (ow hw 113 rfl) (ow hw 112 rfl) (by decide) (by decide)) (g := (mkF m 240 #[jv p0, sv, jv p1, sv, jv p2, sv, jv p3, sv, iv p4, iv (2 : Int32), iv (0 : Int32), iv fA, iv fC, rv b582, rv b587, jv ea, sv, jv eb, sv, iv (1 : Int32)] [(.long (0 : Int64)), (.long (0 : Int64)), (.ref e629)])) rfl (by rw [hml]; rfl) (argsL := [(.ref e629), (.long (0 : Int64)), (.long (0 : Int64))]) (rest := []) (lenOf pd_17 rfl) rfl (by show 2 * 0 + _ ≤ _; exact Nat.le_of_eq rfl) (hb hby at_240) (fun _ _ => ⟨rfl, rfl, Nat.le_of_ble_eq_true rfl, Nat.le_of_ble_eq_true rfl⟩)
        dsimp only [Pt.U, Pt.locs, Pt.cells, Pt.slots] at X630 l630 y630 z630 st630 hQ630
        rw [l630, y630, z630] at X630
        obtain ⟨rfl, rfl, e630⟩ := hQ630
        have N630 := Fr.app N629 (Fr.nil n0)
        refine OGets.step st630 ?_
        refine OGets.step (fun _ => XS.ifNo X630.here hx rfl (hb hby at_243) rfl ((if0 _ _).trans (feq (by decide : ¬ ((1 : Int32) = (0 : Int32)))).1)) ?_
        refine OGets.step (fun _ => XS.iconst X630.here hx rfl (hb hby at_246)) ?_
        refine OGets.step (fun _ => XS.goto X630.here hx rfl (pc0 := 247) (pc' := 251) rfl (hb hby at_247) (by decide) (by decide)) ?_
        refine OGets.retN X630 hx hlk (t := .boolean) Bd.returns (by simp) (hb hby at_251) (Nat.le_of_ble_eq_true rfl) (Nat.le_of_ble_eq_true rfl) ?_
        exact ⟨rfl, N630⟩
    · rw [hpl]
      show OGets p e below _ (s₁.setTop (mkF m 14 #[jv p0, sv, jv p1, sv, jv p2, sv, jv p3, sv, iv p4, iv (2 : Int32), uv, uv, uv, uv, uv, uv, uv, uv, uv, uv] [(.int (1 : Int32))]))
      refine OGets.step (fun _ => XS.istore X0.here hx rfl (hb hby at_14) rfl (l' := #[jv p0, sv, jv p1, sv, jv p2, sv, jv p3, sv, iv p4, iv (2 : Int32), iv (1 : Int32), uv, uv, uv, uv, uv, uv, uv, uv, uv]) rfl) ?_
      refine OGets.step (fun _ => XS.iload X0.here hx rfl (hb hby at_16) rfl) ?_
      refine OGets.step (fun _ => XS.iconst X0.here hx rfl (hb hby at_18)) ?_
      refine OGets.step (fun _ => XS.iushr X0.here hx rfl (hb hby at_19) rfl) ?_
      refine OGets.step (fun _ => XS.sipush X0.here hx rfl (hb hby at_20)) ?_
      refine OGets.step (fun _ => XS.iand X0.here hx rfl (hb hby at_23) rfl) ?_
      show OGets p e below _ (s₁.setTop (mkF m 24 #[jv p0, sv, jv p1, sv, jv p2, sv, jv p3, sv, iv p4, iv (2 : Int32), iv (1 : Int32), uv, uv, uv, uv, uv, uv, uv, uv, uv] [(.int (((p4.toUInt32 >>> ((2 : Int32) &&& 31).toUInt32).toInt32) &&& (32767 : Int32)))]))
      refine OGets.step (fun _ => XS.iconst X0.here hx rfl (hb hby at_24)) ?_
      refine OGets.step (fun _ => XS.iload X0.here hx rfl (hb hby at_25) rfl) ?_
      refine OGets.step (fun _ => XS.isub X0.here hx rfl (hb hby at_27) rfl) ?_
      show OGets p e below _ (s₁.setTop (mkF m 28 #[jv p0, sv, jv p1, sv, jv p2, sv, jv p3, sv, iv p4, iv (2 : Int32), iv (1 : Int32), uv, uv, uv, uv, uv, uv, uv, uv, uv] [(.int (3 : Int32)), (.int (((p4.toUInt32 >>> ((2 : Int32) &&& 31).toUInt32).toInt32) &&& (32767 : Int32)))]))
      refine OGets.step (fun _ => iremM (g := (mkF m 28 #[jv p0, sv, jv p1, sv, jv p2, sv, jv p3, sv, iv p4, iv (2 : Int32), iv (1 : Int32), uv, uv, uv, uv, uv, uv, uv, uv, uv] [(.int (3 : Int32)), (.int (((p4.toUInt32 >>> ((2 : Int32) &&& 31).toUInt32).toInt32) &&& (32767 : Int32)))])) X0 hx rfl (hb hby at_28) rfl (by decide)) ?_
      show OGets p e below _ (s₁.setTop (mkF m 29 #[jv p0, sv, jv p1, sv, jv p2, sv, jv p3, sv, iv p4, iv (2 : Int32), iv (1 : Int32), uv, uv, uv, uv, uv, uv, uv, uv, uv] [(.int ((((p4.toUInt32 >>> ((2 : Int32) &&& 31).toUInt32).toInt32) &&& (32767 : Int32)) % (3 : Int32)))]))
      have q_fA := own_o3 ((p4.toUInt32 >>> ((2 : Int32) &&& 31).toUInt32).toInt32)
      generalize ((((p4.toUInt32 >>> ((2 : Int32) &&& 31).toUInt32).toInt32) &&& (32767 : Int32)) % (3 : Int32)) = fA at q_fA ⊢
      show OGets p e below _ (s₁.setTop (mkF m 29 #[jv p0, sv, jv p1, sv, jv p2, sv, jv p3, sv, iv p4, iv (2 : Int32), iv (1 : Int32), uv, uv, uv, uv, uv, uv, uv, uv, uv] [(.int fA)]))
      refine OGets.step (fun _ => XS.istore X0.here hx rfl (hb hby at_29) rfl (l' := #[jv p0, sv, jv p1, sv, jv p2, sv, jv p3, sv, iv p4, iv (2 : Int32), iv (1 : Int32), iv fA, uv, uv, uv, uv, uv, uv, uv, uv]) rfl) ?_
      refine OGets.step (fun _ => XS.iload X0.here hx rfl (hb hby at_31) rfl) ?_
      refine OGets.step (fun _ => XS.bipush X0.here hx rfl (hb hby at_33)) ?_
      refine OGets.step (fun _ => XS.iushr X0.here hx rfl (hb hby at_35) rfl) ?_
      refine OGets.step (fun _ => XS.sipush X0.here hx rfl (hb hby at_36)) ?_
      refine OGets.step (fun _ => XS.iand X0.here hx rfl (hb hby at_39) rfl) ?_
      show OGets p e below _ (s₁.setTop (mkF m 40 #[jv p0, sv, jv p1, sv, jv p2, sv, jv p3, sv, iv p4, iv (2 : Int32), iv (1 : Int32), iv fA, uv, uv, uv, uv, uv, uv, uv, uv] [(.int (((p4.toUInt32 >>> ((17 : Int32) &&& 31).toUInt32).toInt32) &&& (32767 : Int32)))]))
      refine OGets.step (fun _ => XS.iconst X0.here hx rfl (hb hby at_40)) ?_
      refine OGets.step (fun _ => XS.iload X0.here hx rfl (hb hby at_41) rfl) ?_
      refine OGets.step (fun _ => XS.isub X0.here hx rfl (hb hby at_43) rfl) ?_
      show OGets p e below _ (s₁.setTop (mkF m 44 #[jv p0, sv, jv p1, sv, jv p2, sv, jv p3, sv, iv p4, iv (2 : Int32), iv (1 : Int32), iv fA, uv, uv, uv, uv, uv, uv, uv, uv] [(.int (3 : Int32)), (.int (((p4.toUInt32 >>> ((17 : Int32) &&& 31).toUInt32).toInt32) &&& (32767 : Int32)))]))
      refine OGets.step (fun _ => iremM (g := (mkF m 44 #[jv p0, sv, jv p1, sv, jv p2, sv, jv p3, sv, iv p4, iv (2 : Int32), iv (1 : Int32), iv fA, uv, uv, uv, uv, uv, uv, uv, uv] [(.int (3 : Int32)), (.int (((p4.toUInt32 >>> ((17 : Int32) &&& 31).toUInt32).toInt32) &&& (32767 : Int32)))])) X0 hx rfl (hb hby at_44) rfl (by decide)) ?_
      show OGets p e below _ (s₁.setTop (mkF m 45 #[jv p0, sv, jv p1, sv, jv p2, sv, jv p3, sv, iv p4, iv (2 : Int32), iv (1 : Int32), iv fA, uv, uv, uv, uv, uv, uv, uv, uv] [(.int ((((p4.toUInt32 >>> ((17 : Int32) &&& 31).toUInt32).toInt32) &&& (32767 : Int32)) % (3 : Int32)))]))
      have q_fC := own_o3 ((p4.toUInt32 >>> ((17 : Int32) &&& 31).toUInt32).toInt32)
      generalize ((((p4.toUInt32 >>> ((17 : Int32) &&& 31).toUInt32).toInt32) &&& (32767 : Int32)) % (3 : Int32)) = fC at q_fC ⊢
      show OGets p e below _ (s₁.setTop (mkF m 45 #[jv p0, sv, jv p1, sv, jv p2, sv, jv p3, sv, iv p4, iv (2 : Int32), iv (1 : Int32), iv fA, uv, uv, uv, uv, uv, uv, uv, uv] [(.int fC)]))
      refine OGets.step (fun _ => XS.istore X0.here hx rfl (hb hby at_45) rfl (l' := #[jv p0, sv, jv p1, sv, jv p2, sv, jv p3, sv, iv p4, iv (2 : Int32), iv (1 : Int32), iv fA, iv fC, uv, uv, uv, uv, uv, uv, uv]) rfl) ?_
      refine OGets.step (fun _ => XS.iconst X0.here hx rfl (hb hby at_47)) ?_
      obtain ⟨T632, h632, k632, X632, e632, E632, A632, Ex632, st632⟩ := newPE X0 hx hZ (ow hw 0 rfl) e0 (g := (mkF m 48 #[jv p0, sv, jv p1, sv, jv p2, sv, jv p3, sv, iv p4, iv (2 : Int32), iv (1 : Int32), iv fA, iv fC, uv, uv, uv, uv, uv, uv, uv] [(.int (4 : Int32))])) rfl (hb hby at_48) rfl (by decide) (cap := 4) (by decide) (by decide) (by decide) (by decide) (ad := "[J") (by decide +kernel)
      have V632' := V0.newArr Z0 E632 A632 4 rfl (fun _ => Ex632)
      have Z632 : n0 ≤ h632.size := Nat.le_trans Z0 E632.1
      obtain ⟨b632, g632⟩ : ∃ z, z = h0.size := ⟨_, rfl⟩
      rw [← g632] at V632' st632
      have V632 : OView Z n0 h632 (oB b632 [(0 : Int64), (0 : Int64), (0 : Int64), (0 : Int64)] :: []) := V632'
      have O632 := O0.ext E632
      refine OGets.step st632 ?_
      refine OGets.step (fun _ => XS.dup X632.here hx rfl (hb hby at_50) rfl rfl) ?_
      refine OGets.step (fun _ => XS.iconst X632.here hx rfl (hb hby at_51)) ?_
      refine OGets.step (fun _ => XS.lloadN X632.here hx rfl (hb hby at_52) rfl) ?_
      obtain ⟨cl633, Ar633, S633⟩ := V632.arr 0 rfl
      obtain ⟨T633, h633, X633, e633, W633', st633⟩ := stJ X632 hx hZ e632 Ar633 (j := (0 : Int32)) (own_inb S633 0 (by decide) (Nat.le_of_ble_eq_true rfl)) (g := (mkF m 53 #[jv p0, sv, jv p1, sv, jv p2, sv, jv p3, sv, iv p4, iv (2 : Int32), iv (1 : Int32), iv fA, iv fC, uv, uv, uv, uv, uv, uv, uv] [(.long p0), (.int (0 : Int32)), (.ref b632), (.ref b632)])) rfl rfl (hb hby at_53)
      have W633 := own_wr (vs := []) 0 (by decide) W633'
      have V633 : OView Z n0 h633 (oB b632 [p0, (0 : Int64), (0 : Int64), (0 : Int64)] :: []) := V632.putA 0 rfl W633
      have N633 := Fr.snoc X633 N0 (V632.old 0 rfl)
      have Z633 : n0 ≤ h633.size := by rw [W633.size]; exact Z632
      have O633 := O632.wr W633 (V632.old 0 rfl)
      refine OGets.step st633 ?_
      refine OGets.step (fun _ => XS.dup X633.here hx rfl (hb hby at_54) rfl rfl) ?_
      refine OGets.step (fun _ => XS.iconst X633.here hx rfl (hb hby at_55)) ?_
      refine OGets.step (fun _ => XS.lloadN X633.here hx rfl (hb hby at_56) rfl) ?_
      obtain ⟨cl634, Ar634, S634⟩ := V633.arr 0 rfl
      obtain ⟨T634, h634, X634, e634, W634', st634⟩ := stJ X633 hx hZ e633 Ar634 (j := (1 : Int32)) (own_inb S634 1 (by decide) (Nat.le_of_ble_eq_true rfl)) (g := (mkF m 57 #[jv p0, sv, jv p1, sv, jv p2, sv, jv p3, sv, iv p4, iv (2 : Int32), iv (1 : Int32), iv fA, iv fC, uv, uv, uv, uv, uv, uv, uv] [(.long p1), (.int (1 : Int32)), (.ref b632), (.ref b632)])) rfl rfl (hb hby at_57)
      have W634 := own_wr (vs := []) 1 (by decide) W634'
      have V634 : OView Z n0 h634 (oB b632 [p0, p1, (0 : Int64), (0 : Int64)] :: []) := V633.putA 0 rfl W634
      have N634 := Fr.snoc X634 N633 (V633.old 0 rfl)
      have Z634 : n0 ≤ h634.size := by rw [W634.size]; exact Z633
      have O634 := O633.wr W634 (V633.old 0 rfl)
      refine OGets.step st634 ?_
      refine OGets.step (fun _ => XS.dup X634.here hx rfl (hb hby at_58) rfl rfl) ?_
      refine OGets.step (fun _ => XS.iconst X634.here hx rfl (hb hby at_59)) ?_
      refine OGets.step (fun _ => XS.lload X634.here hx rfl (hb hby at_60) rfl) ?_
      obtain ⟨cl635, Ar635, S635⟩ := V634.arr 0 rfl
      obtain ⟨T635, h635, X635, e635, W635', st635⟩ := stJ X634 hx hZ e634 Ar635 (j := (2 : Int32)) (own_inb S635 2 (by decide) (Nat.le_of_ble_eq_true rfl)) (g := (mkF m 62 #[jv p0, sv, jv p1, sv, jv p2, sv, jv p3, sv, iv p4, iv (2 : Int32), iv (1 : Int32), iv fA, iv fC, uv, uv, uv, uv, uv, uv, uv] [(.long p2), (.int (2 : Int32)), (.ref b632), (.ref b632)])) rfl rfl (hb hby at_62)
      have W635 := own_wr (vs := []) 2 (by decide) W635'
      have V635 : OView Z n0 h635 (oB b632 [p0, p1, p2, (0 : Int64)] :: []) := V634.putA 0 rfl W635
      have N635 := Fr.snoc X635 N634 (V634.old 0 rfl)
      have Z635 : n0 ≤ h635.size := by rw [W635.size]; exact Z634
      have O635 := O634.wr W635 (V634.old 0 rfl)
      refine OGets.step st635 ?_
      refine OGets.step (fun _ => XS.dup X635.here hx rfl (hb hby at_63) rfl rfl) ?_
      refine OGets.step (fun _ => XS.iconst X635.here hx rfl (hb hby at_64)) ?_
      refine OGets.step (fun _ => XS.lload X635.here hx rfl (hb hby at_65) rfl) ?_
      obtain ⟨cl636, Ar636, S636⟩ := V635.arr 0 rfl
      obtain ⟨T636, h636, X636, e636, W636', st636⟩ := stJ X635 hx hZ e635 Ar636 (j := (3 : Int32)) (own_inb S636 3 (by decide) (Nat.le_of_ble_eq_true rfl)) (g := (mkF m 67 #[jv p0, sv, jv p1, sv, jv p2, sv, jv p3, sv, iv p4, iv (2 : Int32), iv (1 : Int32), iv fA, iv fC, uv, uv, uv, uv, uv, uv, uv] [(.long p3), (.int (3 : Int32)), (.ref b632), (.ref b632)])) rfl rfl (hb hby at_67)
      have W636 := own_wr (vs := []) 3 (by decide) W636'
      have V636 : OView Z n0 h636 (oB b632 [p0, p1, p2, p3] :: []) := V635.putA 0 rfl W636
      have N636 := Fr.snoc X636 N635 (V635.old 0 rfl)
      have Z636 : n0 ≤ h636.size := by rw [W636.size]; exact Z635
      have O636 := O635.wr W636 (V635.old 0 rfl)
      refine OGets.step st636 ?_
      show OGets p e below _ (T636.setTop (mkF m 68 #[jv p0, sv, jv p1, sv, jv p2, sv, jv p3, sv, iv p4, iv (2 : Int32), iv (1 : Int32), iv fA, iv fC, uv, uv, uv, uv, uv, uv, uv] [(.ref b632)]))
      refine OGets.step (fun _ => XS.astore X636.here hx rfl (hb hby at_68) rfl rfl (l' := #[jv p0, sv, jv p1, sv, jv p2, sv, jv p3, sv, iv p4, iv (2 : Int32), iv (1 : Int32), iv fA, iv fC, rv b632, uv, uv, uv, uv, uv, uv]) rfl) ?_
      obtain ⟨T637, h637, X637, e637, E637, A637, D637, -, st637⟩ := newO X636 hx hZ hown (ow hw 1 rfl) (ow hw 2 rfl) (ow hw 3 rfl) e636 (g := (mkF m 70 #[jv p0, sv, jv p1, sv, jv p2, sv, jv p3, sv, iv p4, iv (2 : Int32), iv (1 : Int32), iv fA, iv fC, rv b632, uv, uv, uv, uv, uv, uv] [])) rfl (hb hby at_70) (by decide) (by decide)
      have V637' := V636.newObj (ns := ns_SearchPath) (vs := [.null, .null, .null, .null, .null, (.int (0 : Int32)), .null, .null, (.int (0 : Int32))]) Z636 E637 A637 D637 (lay_ns_SearchPath hw) (by decide) (by decide)
      have Z637 : n0 ≤ h637.size := Nat.le_trans Z636 E637.1
      obtain ⟨b637, g637⟩ : ∃ z, z = h636.size := ⟨_, rfl⟩
      rw [← g637] at V637' st637
      have V637 : OView Z n0 h637 (oP b637 [.null, .null, .null, .null, .null, (.int (0 : Int32)), .null, .null, (.int (0 : Int32))] :: oB b632 [p0, p1, p2, p3] :: []) := V637'
      have O637 := O636.ext E637
      refine OGets.step st637 ?_
      refine OGets.step (fun _ => XS.dup X637.here hx rfl (hb hby at_73) rfl rfl) ?_
      refine OGets.step (fun _ => XS.iload X637.here hx rfl (hb hby at_74) rfl) ?_
      obtain ⟨_, _, ⟨T638, L638, k638, n638⟩, -, X638, ⟨Lc638, hQ638, l638, y638, z638⟩, st638⟩ := X637.specialBack hx (y := (⟨"com/example/inya/inya/SearchPath", "<init>", "(I)V"⟩ : MethodName)) rfl hown (mvT hZ (ow hw 4 rfl)) (mvT hZ (ow hw 5 rfl)) (mvT hZ (ow hw 6 rfl)) (by decide) (backOf (W := 1) (rm_ini2 l Z a0 hw [] b637 h637 n0 _ Z637  V637 O637) hZ (ow hw 6 rfl) (ow hw 3 rfl) (by decide) (by decide)) (g := (mkF m 76 #[jv p0, sv, jv p1, sv, jv p2, sv, jv p3, sv, iv p4, iv (2 : Int32), iv (1 : Int32), iv fA, iv fC, rv b632, uv, uv, uv, uv, uv, uv] [(.int (2 : Int32)), (.ref b637), (.ref b637)])) rfl (by rw [hml]; rfl) (Steps.refl _) (a := b637) (argsL := [(.int (2 : Int32))]) (rest := [(.ref b637)]) (lenOf pd_13 rfl) rfl (by show 2 * 0 + _ ≤ _; exact Nat.le_of_eq rfl) (hb hby at_76) (fun _ _ => ⟨rfl, e637, Nat.le_of_ble_eq_true rfl, Nat.le_of_ble_eq_true rfl⟩)
      dsimp only [Pt.U, Pt.locs, Pt.cells, Pt.slots] at X638 l638 y638 z638 st638 hQ638
      rw [l638, y638, z638] at X638
      obtain ⟨rfl, N638q, ap638, as638, aq638, ax638, ak638, ag638, ab638, V638, O638q⟩ := hQ638
      have N638 := Fr.app N636 N638q
      have V638v : OView Z n0 T638.heap (oP b637 [(.ref ap638), (.ref as638), (.ref aq638), (.ref ax638), (.ref ak638), (.int (2 : Int32)), (.ref ag638), (.ref ab638), (.int (0 : Int32))] :: oA ap638 (List.replicate 16 (0 : Int32)) :: oA as638 (List.replicate 16 (0 : Int32)) :: oN aq638 :: oA ax638 (List.replicate 16 (0 : Int32)) :: oA ak638 (List.replicate 16 (0 : Int32)) :: oB ag638 (List.replicate 32 (0 : Int64)) :: oB ab638 (List.replicate 32 (0 : Int64)) :: oB b632 [p0, p1, p2, p3] :: []) := V638
      have Z638 : n0 ≤ T638.heap.size := V638v.big 0 rfl
      refine OGets.after st638 ?_
      refine OGets.step (fun _ => XS.astore X638.here hx rfl (hb hby at_79) rfl rfl (l' := #[jv p0, sv, jv p1, sv, jv p2, sv, jv p3, sv, iv p4, iv (2 : Int32), iv (1 : Int32), iv fA, iv fC, rv b632, rv b637, uv, uv, uv, uv, uv]) rfl) ?_
      refine OGets.step (fun _ => XS.aload X638.here hx rfl (hb hby at_81) rfl rfl) ?_
      refine OGets.step (fun _ => XS.bipush X638.here hx rfl (hb hby at_83)) ?_
      obtain ⟨cq639, kq639, q639a, q639b, q639c⟩ := isOf hZ rfl (V638v.exa 0 rfl)
      obtain ⟨_, _, ⟨T639, L639, k639, n639⟩, -, X639, ⟨Lc639, hQ639, l639, y639, z639⟩, st639⟩ := X638.virtualBack hx (y := (⟨"com/example/inya/inya/SearchPath", "add", "(I)V"⟩ : MethodName)) (z := (⟨"com/example/inya/inya/SearchPath", "add", "(I)V"⟩ : MethodName)) hown (mvT hZ (ow hw 29 rfl)) (mvT hZ (ow hw 30 rfl)) (notFace_of_selects (args := #[]) (mvT hZ (ow hw 32 rfl))) (mvT hZ (ow hw 32 rfl)) (mvT hZ (ow hw 31 rfl)) (by decide) (backOf (W := 0) (rm_add20 l Z a0 hw [] b637 ap638 as638 aq638 ax638 ak638 ag638 ab638 (7 : Int32) (List.replicate 16 (0 : Int32)) (List.replicate 16 (0 : Int32)) (List.replicate 16 (0 : Int32)) (List.replicate 16 (0 : Int32)) (List.replicate 32 (0 : Int64)) (List.replicate 32 (0 : Int64)) T638.heap n0 _ Z638 (by simp only [si_len, sj_len, List.length_replicate]) (by simp only [si_len, sj_len, List.length_replicate]) (by simp only [si_len, sj_len, List.length_replicate]) (by simp only [si_len, sj_len, List.length_replicate]) (by simp only [si_len, sj_len, List.length_replicate]) (by simp only [si_len, sj_len, List.length_replicate]) V638v O638q) hZ (ow hw 33 rfl) (ow hw 3 rfl) (by decide) (by decide)) q639a q639c (g := (mkF m 85 #[jv p0, sv, jv p1, sv, jv p2, sv, jv p3, sv, iv p4, iv (2 : Int32), iv (1 : Int32), iv fA, iv fC, rv b632, rv b637, uv, uv, uv, uv, uv] [(.int (7 : Int32)), (.ref b637)])) rfl (by rw [hml]; rfl) (Steps.refl _) (argsL := [(.int (7 : Int32))]) (rest := []) (lenOf pd_13 rfl) rfl (by show 2 * 0 + _ ≤ _; exact Nat.le_of_eq rfl) (hb hby at_85) (fun _ _ => ⟨rfl, rfl, Nat.le_of_ble_eq_true rfl, Nat.le_of_ble_eq_true rfl⟩)
      dsimp only [Pt.U, Pt.locs, Pt.cells, Pt.slots] at X639 l639 y639 z639 st639 hQ639
      rw [l639, y639, z639] at X639
      obtain ⟨rfl, N639q, V639, O639q⟩ := hQ639
      have N639 := Fr.app N638 N639q
      have V639v : OView Z n0 T639.heap (oP b637 [(.ref ap638), (.ref as638), (.ref aq638), (.ref ax638), (.ref ak638), (.int (2 : Int32)), (.ref ag638), (.ref ab638), (.int (1 : Int32))] :: oA ap638 (si (List.replicate 16 (0 : Int32)) (0 : Int32) (7 : Int32)) :: oA as638 (si (List.replicate 16 (0 : Int32)) (0 : Int32) (0 : Int32)) :: oN aq638 :: oA ax638 (si (List.replicate 16 (0 : Int32)) (0 : Int32) (0 : Int32)) :: oA ak638 (si (List.replicate 16 (0 : Int32)) (0 : Int32) (-1 : Int32)) :: oB ag638 (sj (sj (List.replicate 32 (0 : Int64)) (0 : Int32) (0 : Int64)) (1 : Int32) (0 : Int64)) :: oB ab638 (sj (sj (List.replicate 32 (0 : Int64)) (0 : Int32) (0 : Int64)) (1 : Int32) (0 : Int64)) :: oB b632 [p0, p1, p2, p3] :: []) := V639
      have Z639 : n0 ≤ T639.heap.size := V639v.big 0 rfl
      refine OGets.after st639 ?_
      refine OGets.step (fun _ => XS.aload X639.here hx rfl (hb hby at_88) rfl rfl) ?_
      refine OGets.step (fun _ => XS.bipush X639.here hx rfl (hb hby at_90)) ?_
      obtain ⟨cq640, kq640, q640a, q640b, q640c⟩ := isOf hZ rfl (V639v.exa 0 rfl)
      obtain ⟨_, _, ⟨T640, L640, k640, n640⟩, -, X640, ⟨Lc640, hQ640, l640, y640, z640⟩, st640⟩ := X639.virtualBack hx (y := (⟨"com/example/inya/inya/SearchPath", "add", "(I)V"⟩ : MethodName)) (z := (⟨"com/example/inya/inya/SearchPath", "add", "(I)V"⟩ : MethodName)) hown (mvT hZ (ow hw 29 rfl)) (mvT hZ (ow hw 30 rfl)) (notFace_of_selects (args := #[]) (mvT hZ (ow hw 32 rfl))) (mvT hZ (ow hw 32 rfl)) (mvT hZ (ow hw 31 rfl)) (by decide) (backOf (W := 0) (rm_add21 l Z a0 hw [] b637 ap638 as638 aq638 ax638 ak638 ag638 ab638 (9 : Int32) (si (List.replicate 16 (0 : Int32)) (0 : Int32) (7 : Int32)) (si (List.replicate 16 (0 : Int32)) (0 : Int32) (0 : Int32)) (si (List.replicate 16 (0 : Int32)) (0 : Int32) (0 : Int32)) (si (List.replicate 16 (0 : Int32)) (0 : Int32) (-1 : Int32)) (sj (sj (List.replicate 32 (0 : Int64)) (0 : Int32) (0 : Int64)) (1 : Int32) (0 : Int64)) (sj (sj (List.replicate 32 (0 : Int64)) (0 : Int32) (0 : Int64)) (1 : Int32) (0 : Int64)) T639.heap n0 _ Z639 (by simp only [si_len, sj_len, List.length_replicate]) (by simp only [si_len, sj_len, List.length_replicate]) (by simp only [si_len, sj_len, List.length_replicate]) (by simp only [si_len, sj_len, List.length_replicate]) (by simp only [si_len, sj_len, List.length_replicate]) (by simp only [si_len, sj_len, List.length_replicate]) V639v O639q) hZ (ow hw 33 rfl) (ow hw 3 rfl) (by decide) (by decide)) q640a q640c (g := (mkF m 92 #[jv p0, sv, jv p1, sv, jv p2, sv, jv p3, sv, iv p4, iv (2 : Int32), iv (1 : Int32), iv fA, iv fC, rv b632, rv b637, uv, uv, uv, uv, uv] [(.int (9 : Int32)), (.ref b637)])) rfl (by rw [hml]; rfl) (Steps.refl _) (argsL := [(.int (9 : Int32))]) (rest := []) (lenOf pd_13 rfl) rfl (by show 2 * 0 + _ ≤ _; exact Nat.le_of_eq rfl) (hb hby at_92) (fun _ _ => ⟨rfl, rfl, Nat.le_of_ble_eq_true rfl, Nat.le_of_ble_eq_true rfl⟩)
      dsimp only [Pt.U, Pt.locs, Pt.cells, Pt.slots] at X640 l640 y640 z640 st640 hQ640
      rw [l640, y640, z640] at X640
      obtain ⟨rfl, N640q, V640, O640q⟩ := hQ640
      have N640 := Fr.app N639 N640q
      have V640v : OView Z n0 T640.heap (oP b637 [(.ref ap638), (.ref as638), (.ref aq638), (.ref ax638), (.ref ak638), (.int (2 : Int32)), (.ref ag638), (.ref ab638), (.int (2 : Int32))] :: oA ap638 (si (si (List.replicate 16 (0 : Int32)) (0 : Int32) (7 : Int32)) (1 : Int32) (9 : Int32)) :: oA as638 (si (si (List.replicate 16 (0 : Int32)) (0 : Int32) (0 : Int32)) (1 : Int32) (0 : Int32)) :: oN aq638 :: oA ax638 (si (si (List.replicate 16 (0 : Int32)) (0 : Int32) (0 : Int32)) (1 : Int32) (0 : Int32)) :: oA ak638 (si (si (List.replicate 16 (0 : Int32)) (0 : Int32) (-1 : Int32)) (1 : Int32) (-1 : Int32)) :: oB ag638 (sj (sj (sj (sj (List.replicate 32 (0 : Int64)) (0 : Int32) (0 : Int64)) (1 : Int32) (0 : Int64)) (2 : Int32) (0 : Int64)) (3 : Int32) (0 : Int64)) :: oB ab638 (sj (sj (sj (sj (List.replicate 32 (0 : Int64)) (0 : Int32) (0 : Int64)) (1 : Int32) (0 : Int64)) (2 : Int32) (0 : Int64)) (3 : Int32) (0 : Int64)) :: oB b632 [p0, p1, p2, p3] :: []) := V640
      obtain ⟨Ga, hGa⟩ : ∃ z, z = (sj (sj (sj (sj (List.replicate 32 (0 : Int64)) (0 : Int32) (0 : Int64)) (1 : Int32) (0 : Int64)) (2 : Int32) (0 : Int64)) (3 : Int32) (0 : Int64)) := ⟨_, rfl⟩
      rw [← hGa] at V640v
      have lGa : Ga.length = 32 := by rw [hGa]; simp only [sj_len, List.length_replicate]
      have Z640 : n0 ≤ T640.heap.size := V640v.big 0 rfl
      refine OGets.after st640 ?_
      have Vd641 : OView Z n0 T640.heap (oP b637 [(.ref ap638), (.ref as638), (.ref aq638), (.ref ax638), (.ref ak638), (.int (2 : Int32)), (.ref ag638), (.ref ab638), (.int (2 : Int32))] :: oB ag638 Ga :: oB b632 [p0, p1, p2, p3] :: []) := ((((((V640v.bring 1 rfl).tail.bring 1 rfl).tail.bring 1 rfl).tail.bring 1 rfl).tail.bring 1 rfl).tail.bring 2 rfl).tail
      show OGets p e below _ (T640.setTop (mkF m 95 #[jv p0, sv, jv p1, sv, jv p2, sv, jv p3, sv, iv p4, iv (2 : Int32), iv (1 : Int32), iv fA, iv fC, rv b632, rv b637, uv, uv, uv, uv, uv] []))
      refine OGets.step (fun _ => XS.aload X640.here hx rfl (hb hby at_95) rfl rfl) ?_
      refine OGets.step (fun _ => XS.iload X640.here hx rfl (hb hby at_97) rfl) ?_
      refine OGets.step (fun _ => XS.aload X640.here hx rfl (hb hby at_99) rfl rfl) ?_
      refine OGets.step (fun _ => XS.iload X640.here hx rfl (hb hby at_101) rfl) ?_
      obtain ⟨cq642, kq642, q642a, q642b, q642c⟩ := isOf hZ rfl (Vd641.exa 0 rfl)
      obtain ⟨_, _, ⟨T642, L642, k642, n642⟩, -, X642, ⟨Lc642, hQ642, l642, y642, z642⟩, st642⟩ := X640.virtualBack hx (y := (⟨"com/example/inya/inya/SearchPath", "gather", "(I[JI)V"⟩ : MethodName)) (z := (⟨"com/example/inya/inya/SearchPath", "gather", "(I[JI)V"⟩ : MethodName)) hown (mvT hZ (ow hw 43 rfl)) (mvT hZ (ow hw 44 rfl)) (notFace_of_selects (args := #[]) (mvT hZ (ow hw 46 rfl))) (mvT hZ (ow hw 46 rfl)) (mvT hZ (ow hw 45 rfl)) (by decide) (backOf (W := 0) (rm_gat21 l Z a0 hw [] b637 b632 ap638 as638 aq638 ax638 ak638 ag638 ab638 fA Ga [p0, p1, p2, p3] T640.heap n0 _ Z640 lGa (by simp only [own_l4]) q_fA.1 q_fA.2 Vd641 O640q) hZ (ow hw 47 rfl) (ow hw 3 rfl) (by decide) (by decide)) q642a q642c (g := (mkF m 103 #[jv p0, sv, jv p1, sv, jv p2, sv, jv p3, sv, iv p4, iv (2 : Int32), iv (1 : Int32), iv fA, iv fC, rv b632, rv b637, uv, uv, uv, uv, uv] [(.int fA), (.ref b632), (.int (1 : Int32)), (.ref b637)])) rfl (by rw [hml]; rfl) (Steps.refl _) (argsL := [(.int (1 : Int32)), (.ref b632), (.int fA)]) (rest := []) (lenOf pd_14 rfl) rfl (by show 2 * 0 + _ ≤ _; exact Nat.le_of_eq rfl) (hb hby at_103) (fun _ _ => ⟨rfl, rfl, Nat.le_of_ble_eq_true rfl, Nat.le_of_ble_eq_true rfl⟩)
      dsimp only [Pt.U, Pt.locs, Pt.cells, Pt.slots] at X642 l642 y642 z642 st642 hQ642
      rw [l642, y642, z642] at X642
      obtain ⟨rfl, N642q, V642, O642q⟩ := hQ642
      have N642 := Fr.app N640 N642q
      have V642v : OView Z n0 T642.heap (oP b637 [(.ref ap638), (.ref as638), (.ref aq638), (.ref ax638), (.ref ak638), (.int (2 : Int32)), (.ref ag638), (.ref ab638), (.int (2 : Int32))] :: oB ag638 (sj (sj Ga (2 : Int32) ((gj Ga (2 : Int32)) ||| (gj [p0, p1, p2, p3] (fA + (0 : Int32))))) (3 : Int32) ((gj (sj Ga (2 : Int32) ((gj Ga (2 : Int32)) ||| (gj [p0, p1, p2, p3] (fA + (0 : Int32))))) (3 : Int32)) ||| (gj [p0, p1, p2, p3] (fA + (1 : Int32))))) :: oB b632 [p0, p1, p2, p3] :: []) := V642
      obtain ⟨Gb, hGb⟩ : ∃ z, z = (sj (sj Ga (2 : Int32) ((gj Ga (2 : Int32)) ||| (gj [p0, p1, p2, p3] (fA + (0 : Int32))))) (3 : Int32) ((gj (sj Ga (2 : Int32) ((gj Ga (2 : Int32)) ||| (gj [p0, p1, p2, p3] (fA + (0 : Int32))))) (3 : Int32)) ||| (gj [p0, p1, p2, p3] (fA + (1 : Int32))))) := ⟨_, rfl⟩
      rw [← hGb] at V642v
      have lGb : Gb.length = 32 := by rw [hGb]; simp only [sj_len, lGa]
      have Z642 : n0 ≤ T642.heap.size := V642v.big 0 rfl
      refine OGets.after st642 ?_
      refine OGets.step (fun _ => XS.aload X642.here hx rfl (hb hby at_106) rfl rfl) ?_
      refine OGets.step (fun _ => XS.iload X642.here hx rfl (hb hby at_108) rfl) ?_
      refine OGets.step (fun _ => XS.aload X642.here hx rfl (hb hby at_110) rfl rfl) ?_
      refine OGets.step (fun _ => XS.iload X642.here hx rfl (hb hby at_112) rfl) ?_
      obtain ⟨cq643, kq643, q643a, q643b, q643c⟩ := isOf hZ rfl (V642v.exa 0 rfl)
      obtain ⟨_, _, ⟨T643, L643, k643, n643⟩, -, X643, ⟨Lc643, hQ643, l643, y643, z643⟩, st643⟩ := X642.virtualBack hx (y := (⟨"com/example/inya/inya/SearchPath", "gather", "(I[JI)V"⟩ : MethodName)) (z := (⟨"com/example/inya/inya/SearchPath", "gather", "(I[JI)V"⟩ : MethodName)) hown (mvT hZ (ow hw 43 rfl)) (mvT hZ (ow hw 44 rfl)) (notFace_of_selects (args := #[]) (mvT hZ (ow hw 46 rfl))) (mvT hZ (ow hw 46 rfl)) (mvT hZ (ow hw 45 rfl)) (by decide) (backOf (W := 0) (rm_gat21 l Z a0 hw [] b637 b632 ap638 as638 aq638 ax638 ak638 ag638 ab638 fC Gb [p0, p1, p2, p3] T642.heap n0 _ Z642 lGb (by simp only [own_l4]) q_fC.1 q_fC.2 V642v O642q) hZ (ow hw 47 rfl) (ow hw 3 rfl) (by decide) (by decide)) q643a q643c (g := (mkF m 114 #[jv p0, sv, jv p1, sv, jv p2, sv, jv p3, sv, iv p4, iv (2 : Int32), iv (1 : Int32), iv fA, iv fC, rv b632, rv b637, uv, uv, uv, uv, uv] [(.int fC), (.ref b632), (.int (1 : Int32)), (.ref b637)])) rfl (by rw [hml]; rfl) (Steps.refl _) (argsL := [(.int (1 : Int32)), (.ref b632), (.int fC)]) (rest := []) (lenOf pd_14 rfl) rfl (by show 2 * 0 + _ ≤ _; exact Nat.le_of_eq rfl) (hb hby at_114) (fun _ _ => ⟨rfl, rfl, Nat.le_of_ble_eq_true rfl, Nat.le_of_ble_eq_true rfl⟩)
      dsimp only [Pt.U, Pt.locs, Pt.cells, Pt.slots] at X643 l643 y643 z643 st643 hQ643
      rw [l643, y643, z643] at X643
      obtain ⟨rfl, N643q, V643, O643q⟩ := hQ643
      have N643 := Fr.app N642 N643q
      have V643v : OView Z n0 T643.heap (oP b637 [(.ref ap638), (.ref as638), (.ref aq638), (.ref ax638), (.ref ak638), (.int (2 : Int32)), (.ref ag638), (.ref ab638), (.int (2 : Int32))] :: oB ag638 (sj (sj Gb (2 : Int32) ((gj Gb (2 : Int32)) ||| (gj [p0, p1, p2, p3] (fC + (0 : Int32))))) (3 : Int32) ((gj (sj Gb (2 : Int32) ((gj Gb (2 : Int32)) ||| (gj [p0, p1, p2, p3] (fC + (0 : Int32))))) (3 : Int32)) ||| (gj [p0, p1, p2, p3] (fC + (1 : Int32))))) :: oB b632 [p0, p1, p2, p3] :: []) := V643
      obtain ⟨Gc, hGc⟩ : ∃ z, z = (sj (sj Gb (2 : Int32) ((gj Gb (2 : Int32)) ||| (gj [p0, p1, p2, p3] (fC + (0 : Int32))))) (3 : Int32) ((gj (sj Gb (2 : Int32) ((gj Gb (2 : Int32)) ||| (gj [p0, p1, p2, p3] (fC + (0 : Int32))))) (3 : Int32)) ||| (gj [p0, p1, p2, p3] (fC + (1 : Int32))))) := ⟨_, rfl⟩
      rw [← hGc] at V643v
      have lGc : Gc.length = 32 := by rw [hGc]; simp only [sj_len, lGb]
      have Z643 : n0 ≤ T643.heap.size := V643v.big 0 rfl
      refine OGets.after st643 ?_
      refine OGets.step (fun _ => XS.aload X643.here hx rfl (hb hby at_117) rfl rfl) ?_
      refine OGets.step (fun _ => XS.iload X643.here hx rfl (hb hby at_119) rfl) ?_
      obtain ⟨cl644, Ar644, S644⟩ := V643v.arr 2 rfl
      refine OGets.step (fun _ => X643.laload hx (j := fA) (v := (.long (gj [p0, p1, p2, p3] fA))) Ar644.1 (State.isArrayOf_alike hZ.alike Ar644.2.1) Ar644.2.2 (own_sin (n := 4) S644 (by simp only [List.length_map, si_len, sj_len, List.length_replicate, own_l4]) (own_in0 q_fA.1)) (own_sgetJ (n := 4) S644 (by simp only [List.length_map, si_len, sj_len, List.length_replicate, own_l4]) (own_in0 q_fA.1)) (g := (mkF m 121 #[jv p0, sv, jv p1, sv, jv p2, sv, jv p3, sv, iv p4, iv (2 : Int32), iv (1 : Int32), iv fA, iv fC, rv b632, rv b637, uv, uv, uv, uv, uv] [(.int fA), (.ref b632)])) rfl rfl (hb hby at_121) _) ?_
      refine OGets.step (fun _ => XS.aload X643.here hx rfl (hb hby at_122) rfl rfl) ?_
      refine OGets.step (fun _ => XS.iload X643.here hx rfl (hb hby at_124) rfl) ?_
      show OGets p e below _ (T643.setTop (mkF m 126 #[jv p0, sv, jv p1, sv, jv p2, sv, jv p3, sv, iv p4, iv (2 : Int32), iv (1 : Int32), iv fA, iv fC, rv b632, rv b637, uv, uv, uv, uv, uv] [(.int fC), (.ref b632), (.long (gj [p0, p1, p2, p3] fA))]))
      obtain ⟨cl645, Ar645, S645⟩ := V643v.arr 2 rfl
      refine OGets.step (fun _ => X643.laload hx (j := fC) (v := (.long (gj [p0, p1, p2, p3] fC))) Ar645.1 (State.isArrayOf_alike hZ.alike Ar645.2.1) Ar645.2.2 (own_sin (n := 4) S645 (by simp only [List.length_map, si_len, sj_len, List.length_replicate, own_l4]) (own_in0 q_fC.1)) (own_sgetJ (n := 4) S645 (by simp only [List.length_map, si_len, sj_len, List.length_replicate, own_l4]) (own_in0 q_fC.1)) (g := (mkF m 126 #[jv p0, sv, jv p1, sv, jv p2, sv, jv p3, sv, iv p4, iv (2 : Int32), iv (1 : Int32), iv fA, iv fC, rv b632, rv b637, uv, uv, uv, uv, uv] [(.int fC), (.ref b632), (.long (gj [p0, p1, p2, p3] fA))])) rfl rfl (hb hby at_126) _) ?_
      refine OGets.step (fun _ => XS.lor X643.here hx rfl (hb hby at_127) rfl) ?_
      show OGets p e below _ (T643.setTop (mkF m 128 #[jv p0, sv, jv p1, sv, jv p2, sv, jv p3, sv, iv p4, iv (2 : Int32), iv (1 : Int32), iv fA, iv fC, rv b632, rv b637, uv, uv, uv, uv, uv] [(.long ((gj [p0, p1, p2, p3] fA) ||| (gj [p0, p1, p2, p3] fC)))]))
      generalize hea : ((gj [p0, p1, p2, p3] fA) ||| (gj [p0, p1, p2, p3] fC)) = ea
      show OGets p e below _ (T643.setTop (mkF m 128 #[jv p0, sv, jv p1, sv, jv p2, sv, jv p3, sv, iv p4, iv (2 : Int32), iv (1 : Int32), iv fA, iv fC, rv b632, rv b637, uv, uv, uv, uv, uv] [(.long ea)]))
      refine OGets.step (fun _ => XS.lstore X643.here hx rfl (hb hby at_128) rfl (l' := #[jv p0, sv, jv p1, sv, jv p2, sv, jv p3, sv, iv p4, iv (2 : Int32), iv (1 : Int32), iv fA, iv fC, rv b632, rv b637, jv ea, sv, uv, uv, uv]) rfl) ?_
      refine OGets.step (fun _ => XS.lconst X643.here hx rfl (hb hby at_130)) ?_
      refine OGets.step (fun _ => XS.lstore X643.here hx rfl (hb hby at_131) rfl (l' := #[jv p0, sv, jv p1, sv, jv p2, sv, jv p3, sv, iv p4, iv (2 : Int32), iv (1 : Int32), iv fA, iv fC, rv b632, rv b637, jv ea, sv, jv (0 : Int64), sv, uv]) rfl) ?_
      refine OGets.step (fun _ => XS.iload X643.here hx rfl (hb hby at_133) rfl) ?_
      refine OGets.step (fun _ => XS.iconst X643.here hx rfl (hb hby at_135)) ?_
      refine OGets.step (fun _ => XS.icmpNo X643.here hx rfl (hb hby at_136) rfl (teq (by decide : (2 : Int32) = (2 : Int32))).2) ?_
      show OGets p e below _ (T643.setTop (mkF m 139 #[jv p0, sv, jv p1, sv, jv p2, sv, jv p3, sv, iv p4, iv (2 : Int32), iv (1 : Int32), iv fA, iv fC, rv b632, rv b637, jv ea, sv, jv (0 : Int64), sv, uv] []))
      refine OGets.step (fun _ => XS.aload X643.here hx rfl (hb hby at_139) rfl rfl) ?_
      refine OGets.step (fun _ => XS.iload X643.here hx rfl (hb hby at_141) rfl) ?_
      refine OGets.step (fun _ => XS.iconst X643.here hx rfl (hb hby at_143)) ?_
      refine OGets.step (fun _ => XS.iadd X643.here hx rfl (hb hby at_144) rfl) ?_
      obtain ⟨cl647, Ar647, S647⟩ := V643v.arr 2 rfl
      refine OGets.step (fun _ => X643.laload hx (j := (fA + (1 : Int32))) (v := (.long (gj [p0, p1, p2, p3] (fA + (1 : Int32))))) Ar647.1 (State.isArrayOf_alike hZ.alike Ar647.2.1) Ar647.2.2 (own_sin (n := 4) S647 (by simp only [List.length_map, si_len, sj_len, List.length_replicate, own_l4]) q_fA.2) (own_sgetJ (n := 4) S647 (by simp only [List.length_map, si_len, sj_len, List.length_replicate, own_l4]) q_fA.2) (g := (mkF m 145 #[jv p0, sv, jv p1, sv, jv p2, sv, jv p3, sv, iv p4, iv (2 : Int32), iv (1 : Int32), iv fA, iv fC, rv b632, rv b637, jv ea, sv, jv (0 : Int64), sv, uv] [(.int (fA + (1 : Int32))), (.ref b632)])) rfl rfl (hb hby at_145) _) ?_
      refine OGets.step (fun _ => XS.aload X643.here hx rfl (hb hby at_146) rfl rfl) ?_
      show OGets p e below _ (T643.setTop (mkF m 148 #[jv p0, sv, jv p1, sv, jv p2, sv, jv p3, sv, iv p4, iv (2 : Int32), iv (1 : Int32), iv fA, iv fC, rv b632, rv b637, jv ea, sv, jv (0 : Int64), sv, uv] [(.ref b632), (.long (gj [p0, p1, p2, p3] (fA + (1 : Int32))))]))
      refine OGets.step (fun _ => XS.iload X643.here hx rfl (hb hby at_148) rfl) ?_
      refine OGets.step (fun _ => XS.iconst X643.here hx rfl (hb hby at_150)) ?_
      refine OGets.step (fun _ => XS.iadd X643.here hx rfl (hb hby at_151) rfl) ?_
      obtain ⟨cl648, Ar648, S648⟩ := V643v.arr 2 rfl
      refine OGets.step (fun _ => X643.laload hx (j := (fC + (1 : Int32))) (v := (.long (gj [p0, p1, p2, p3] (fC + (1 : Int32))))) Ar648.1 (State.isArrayOf_alike hZ.alike Ar648.2.1) Ar648.2.2 (own_sin (n := 4) S648 (by simp only [List.length_map, si_len, sj_len, List.length_replicate, own_l4]) q_fC.2) (own_sgetJ (n := 4) S648 (by simp only [List.length_map, si_len, sj_len, List.length_replicate, own_l4]) q_fC.2) (g := (mkF m 152 #[jv p0, sv, jv p1, sv, jv p2, sv, jv p3, sv, iv p4, iv (2 : Int32), iv (1 : Int32), iv fA, iv fC, rv b632, rv b637, jv ea, sv, jv (0 : Int64), sv, uv] [(.int (fC + (1 : Int32))), (.ref b632), (.long (gj [p0, p1, p2, p3] (fA + (1 : Int32))))])) rfl rfl (hb hby at_152) _) ?_
      refine OGets.step (fun _ => XS.lor X643.here hx rfl (hb hby at_153) rfl) ?_
      show OGets p e below _ (T643.setTop (mkF m 154 #[jv p0, sv, jv p1, sv, jv p2, sv, jv p3, sv, iv p4, iv (2 : Int32), iv (1 : Int32), iv fA, iv fC, rv b632, rv b637, jv ea, sv, jv (0 : Int64), sv, uv] [(.long ((gj [p0, p1, p2, p3] (fA + (1 : Int32))) ||| (gj [p0, p1, p2, p3] (fC + (1 : Int32)))))]))
      generalize heb : ((gj [p0, p1, p2, p3] (fA + (1 : Int32))) ||| (gj [p0, p1, p2, p3] (fC + (1 : Int32)))) = eb
      show OGets p e below _ (T643.setTop (mkF m 154 #[jv p0, sv, jv p1, sv, jv p2, sv, jv p3, sv, iv p4, iv (2 : Int32), iv (1 : Int32), iv fA, iv fC, rv b632, rv b637, jv ea, sv, jv (0 : Int64), sv, uv] [(.long eb)]))
      refine OGets.step (fun _ => XS.lstore X643.here hx rfl (hb hby at_154) rfl (l' := #[jv p0, sv, jv p1, sv, jv p2, sv, jv p3, sv, iv p4, iv (2 : Int32), iv (1 : Int32), iv fA, iv fC, rv b632, rv b637, jv ea, sv, jv eb, sv, uv]) rfl) ?_
      refine OGets.step (fun _ => XS.aload X643.here hx rfl (hb hby at_156) rfl rfl) ?_
      refine OGets.step (fun _ => XS.iconst X643.here hx rfl (hb hby at_158)) ?_
      obtain ⟨cl649, Ar649, S649⟩ := V643v.arr 2 rfl
      refine OGets.step (fun _ => X643.laload hx (j := (0 : Int32)) (v := (.long (gj [p0, p1, p2, p3] (0 : Int32)))) Ar649.1 (State.isArrayOf_alike hZ.alike Ar649.2.1) Ar649.2.2 (own_sin (n := 4) S649 (by simp only [List.length_map, si_len, sj_len, List.length_replicate, own_l4]) (by decide)) (own_sgetJ (n := 4) S649 (by simp only [List.length_map, si_len, sj_len, List.length_replicate, own_l4]) (by decide)) (g := (mkF m 159 #[jv p0, sv, jv p1, sv, jv p2, sv, jv p3, sv, iv p4, iv (2 : Int32), iv (1 : Int32), iv fA, iv fC, rv b632, rv b637, jv ea, sv, jv eb, sv, uv] [(.int (0 : Int32)), (.ref b632)])) rfl rfl (hb hby at_159) _) ?_
      refine OGets.step (fun _ => XS.lloadN X643.here hx rfl (hb hby at_160) rfl) ?_
      refine OGets.step (fun _ => XS.lcmp X643.here hx rfl (hb hby at_161) rfl) ?_
      show OGets p e below _ (T643.setTop (mkF m 162 #[jv p0, sv, jv p1, sv, jv p2, sv, jv p3, sv, iv p4, iv (2 : Int32), iv (1 : Int32), iv fA, iv fC, rv b632, rv b637, jv ea, sv, jv eb, sv, uv] [(.int (lcmpW (gj [p0, p1, p2, p3] (0 : Int32)) p0))]))
      refine OGets.step (fun _ => XS.ifNo X643.here hx rfl (hb hby at_162) rfl ((if0 _ _).trans (teq ((lw_eq _ _).mpr (rfl : (gj [p0, p1, p2, p3] (0 : Int32)) = p0))).2)) ?_
      refine OGets.step (fun _ => XS.aload X643.here hx rfl (hb hby at_165) rfl rfl) ?_
      refine OGets.step (fun _ => XS.iconst X643.here hx rfl (hb hby at_167)) ?_
      obtain ⟨cl651, Ar651, S651⟩ := V643v.arr 2 rfl
      refine OGets.step (fun _ => X643.laload hx (j := (1 : Int32)) (v := (.long (gj [p0, p1, p2, p3] (1 : Int32)))) Ar651.1 (State.isArrayOf_alike hZ.alike Ar651.2.1) Ar651.2.2 (own_sin (n := 4) S651 (by simp only [List.length_map, si_len, sj_len, List.length_replicate, own_l4]) (by decide)) (own_sgetJ (n := 4) S651 (by simp only [List.length_map, si_len, sj_len, List.length_replicate, own_l4]) (by decide)) (g := (mkF m 168 #[jv p0, sv, jv p1, sv, jv p2, sv, jv p3, sv, iv p4, iv (2 : Int32), iv (1 : Int32), iv fA, iv fC, rv b632, rv b637, jv ea, sv, jv eb, sv, uv] [(.int (1 : Int32)), (.ref b632)])) rfl rfl (hb hby at_168) _) ?_
      refine OGets.step (fun _ => XS.lloadN X643.here hx rfl (hb hby at_169) rfl) ?_
      refine OGets.step (fun _ => XS.lcmp X643.here hx rfl (hb hby at_170) rfl) ?_
      show OGets p e below _ (T643.setTop (mkF m 171 #[jv p0, sv, jv p1, sv, jv p2, sv, jv p3, sv, iv p4, iv (2 : Int32), iv (1 : Int32), iv fA, iv fC, rv b632, rv b637, jv ea, sv, jv eb, sv, uv] [(.int (lcmpW (gj [p0, p1, p2, p3] (1 : Int32)) p1))]))
      refine OGets.step (fun _ => XS.ifNo X643.here hx rfl (hb hby at_171) rfl ((if0 _ _).trans (teq ((lw_eq _ _).mpr (rfl : (gj [p0, p1, p2, p3] (1 : Int32)) = p1))).2)) ?_
      refine OGets.step (fun _ => XS.aload X643.here hx rfl (hb hby at_174) rfl rfl) ?_
      refine OGets.step (fun _ => XS.iconst X643.here hx rfl (hb hby at_176)) ?_
      obtain ⟨cl653, Ar653, S653⟩ := V643v.arr 2 rfl
      refine OGets.step (fun _ => X643.laload hx (j := (2 : Int32)) (v := (.long (gj [p0, p1, p2, p3] (2 : Int32)))) Ar653.1 (State.isArrayOf_alike hZ.alike Ar653.2.1) Ar653.2.2 (own_sin (n := 4) S653 (by simp only [List.length_map, si_len, sj_len, List.length_replicate, own_l4]) (by decide)) (own_sgetJ (n := 4) S653 (by simp only [List.length_map, si_len, sj_len, List.length_replicate, own_l4]) (by decide)) (g := (mkF m 177 #[jv p0, sv, jv p1, sv, jv p2, sv, jv p3, sv, iv p4, iv (2 : Int32), iv (1 : Int32), iv fA, iv fC, rv b632, rv b637, jv ea, sv, jv eb, sv, uv] [(.int (2 : Int32)), (.ref b632)])) rfl rfl (hb hby at_177) _) ?_
      refine OGets.step (fun _ => XS.lload X643.here hx rfl (hb hby at_178) rfl) ?_
      refine OGets.step (fun _ => XS.lcmp X643.here hx rfl (hb hby at_180) rfl) ?_
      show OGets p e below _ (T643.setTop (mkF m 181 #[jv p0, sv, jv p1, sv, jv p2, sv, jv p3, sv, iv p4, iv (2 : Int32), iv (1 : Int32), iv fA, iv fC, rv b632, rv b637, jv ea, sv, jv eb, sv, uv] [(.int (lcmpW (gj [p0, p1, p2, p3] (2 : Int32)) p2))]))
      refine OGets.step (fun _ => XS.ifNo X643.here hx rfl (hb hby at_181) rfl ((if0 _ _).trans (teq ((lw_eq _ _).mpr (rfl : (gj [p0, p1, p2, p3] (2 : Int32)) = p2))).2)) ?_
      refine OGets.step (fun _ => XS.aload X643.here hx rfl (hb hby at_184) rfl rfl) ?_
      refine OGets.step (fun _ => XS.iconst X643.here hx rfl (hb hby at_186)) ?_
      obtain ⟨cl655, Ar655, S655⟩ := V643v.arr 2 rfl
      refine OGets.step (fun _ => X643.laload hx (j := (3 : Int32)) (v := (.long (gj [p0, p1, p2, p3] (3 : Int32)))) Ar655.1 (State.isArrayOf_alike hZ.alike Ar655.2.1) Ar655.2.2 (own_sin (n := 4) S655 (by simp only [List.length_map, si_len, sj_len, List.length_replicate, own_l4]) (by decide)) (own_sgetJ (n := 4) S655 (by simp only [List.length_map, si_len, sj_len, List.length_replicate, own_l4]) (by decide)) (g := (mkF m 187 #[jv p0, sv, jv p1, sv, jv p2, sv, jv p3, sv, iv p4, iv (2 : Int32), iv (1 : Int32), iv fA, iv fC, rv b632, rv b637, jv ea, sv, jv eb, sv, uv] [(.int (3 : Int32)), (.ref b632)])) rfl rfl (hb hby at_187) _) ?_
      refine OGets.step (fun _ => XS.lload X643.here hx rfl (hb hby at_188) rfl) ?_
      refine OGets.step (fun _ => XS.lcmp X643.here hx rfl (hb hby at_190) rfl) ?_
      show OGets p e below _ (T643.setTop (mkF m 191 #[jv p0, sv, jv p1, sv, jv p2, sv, jv p3, sv, iv p4, iv (2 : Int32), iv (1 : Int32), iv fA, iv fC, rv b632, rv b637, jv ea, sv, jv eb, sv, uv] [(.int (lcmpW (gj [p0, p1, p2, p3] (3 : Int32)) p3))]))
      refine OGets.step (fun _ => XS.ifNo X643.here hx rfl (hb hby at_191) rfl ((if0 _ _).trans (teq ((lw_eq _ _).mpr (rfl : (gj [p0, p1, p2, p3] (3 : Int32)) = p3))).2)) ?_
      refine OGets.step (fun _ => XS.iconst X643.here hx rfl (hb hby at_194)) ?_
      refine OGets.step (fun _ => XS.goto X643.here hx rfl (pc0 := 195) (pc' := 199) rfl (hb hby at_195) (by decide) (by decide)) ?_
      refine OGets.step (fun _ => XS.istore X643.here hx rfl (hb hby at_199) rfl (l' := #[jv p0, sv, jv p1, sv, jv p2, sv, jv p3, sv, iv p4, iv (2 : Int32), iv (1 : Int32), iv fA, iv fC, rv b632, rv b637, jv ea, sv, jv eb, sv, iv (1 : Int32)]) rfl) ?_
      refine OGets.step (fun _ => XS.iload X643.here hx rfl (hb hby at_201) rfl) ?_
      refine OGets.step (fun _ => XS.ifNo X643.here hx rfl (hb hby at_203) rfl ((if0 _ _).trans (feq (by decide : ¬ ((1 : Int32) = (0 : Int32)))).1)) ?_
      have hx0 : (gj Gc (2 : Int32)) = ea := by rw [← hea, hGc, hGb, hGa]; exact own_or3 [p0, p1, p2, p3] fA fC
      have hx1 : (gj Gc (3 : Int32)) = eb := by rw [← heb, hGc, hGb, hGa]; exact own_or4 [p0, p1, p2, p3] fA fC
      by_cases hk1 : eb = (0 : Int64)
      · by_cases hk0 : ea = (0 : Int64)
        · show OGets p e below _ (T643.setTop (mkF m 206 #[jv p0, sv, jv p1, sv, jv p2, sv, jv p3, sv, iv p4, iv (2 : Int32), iv (1 : Int32), iv fA, iv fC, rv b632, rv b637, jv ea, sv, jv eb, sv, iv (1 : Int32)] []))
          refine OGets.step (fun _ => XS.aload X643.here hx rfl (hb hby at_206) rfl rfl) ?_
          refine OGets.step (fun _ => XS.iload X643.here hx rfl (hb hby at_208) rfl) ?_
          obtain ⟨cq658, kq658, q658a, q658b, q658c⟩ := isOf hZ rfl (V643v.exa 0 rfl)
          obtain ⟨_, _, ⟨T658, L658, k658, n658⟩, -, X658, ⟨Lc658, hQ658, l658, y658, z658⟩, st658⟩ := X643.virtualBack hx (y := (⟨"com/example/inya/inya/SearchPath", "gathered", "(I)Ljava/util/BitSet;"⟩ : MethodName)) (z := (⟨"com/example/inya/inya/SearchPath", "gathered", "(I)Ljava/util/BitSet;"⟩ : MethodName)) hown (mvT hZ (ow hw 48 rfl)) (mvT hZ (ow hw 49 rfl)) (notFace_of_selects (args := #[]) (mvT hZ (ow hw 51 rfl))) (mvT hZ (ow hw 51 rfl)) (mvT hZ (ow hw 50 rfl)) (by decide) (backOf (W := 0) (rm_gtd210 l Z a0 hw [] b637 ap638 as638 aq638 ax638 ak638 ag638 ab638 Gc T643.heap n0 _ Z643 SA lGc (by rw [hx0]; exact hk0) (by rw [hx1]; exact hk1) V643v O643q) hZ (ow hw 52 rfl) (ow hw 3 rfl) (by decide) (by decide)) q658a q658c (g := (mkF m 210 #[jv p0, sv, jv p1, sv, jv p2, sv, jv p3, sv, iv p4, iv (2 : Int32), iv (1 : Int32), iv fA, iv fC, rv b632, rv b637, jv ea, sv, jv eb, sv, iv (1 : Int32)] [(.int (1 : Int32)), (.ref b637)])) rfl (by rw [hml]; rfl) (Steps.refl _) (argsL := [(.int (1 : Int32))]) (rest := []) (lenOf pd_15 rfl) rfl (by show 2 * 0 + _ ≤ _; exact Nat.le_of_eq rfl) (hb hby at_210) (fun _ _ => ⟨rfl, rfl, Nat.le_of_ble_eq_true rfl, Nat.le_of_ble_eq_true rfl⟩)
          dsimp only [Pt.U, Pt.locs, Pt.cells, Pt.slots] at X658 l658 y658 z658 st658 hQ658
          rw [l658, y658, z658] at X658
          obtain ⟨u658, f658, rfl, N658q, V658, O658q⟩ := hQ658
          have N658 := Fr.app N643 N658q
          have V658v : OView Z n0 T658.heap (oS u658 [(.int (0 : Int32)), (.int (0 : Int32)), (.ref f658)] :: oB f658 [] :: oP b637 [(.ref ap638), (.ref as638), (.ref aq638), (.ref ax638), (.ref ak638), (.int (2 : Int32)), (.ref ag638), (.ref ab638), (.int (2 : Int32))] :: oB ag638 Gc :: oB b632 [p0, p1, p2, p3] :: []) := V658
          have Z658 : n0 ≤ T658.heap.size := V658v.big 0 rfl
          refine OGets.after st658 ?_
          obtain ⟨cq659, kq659, q659a, q659b, q659c⟩ := isOf hZ rfl (V658v.exa 0 rfl)
          obtain ⟨_, _, ⟨T659, L659, k659, n659⟩, -, X659, ⟨Lc659, hQ659, l659, y659, z659⟩, st659⟩ := X658.virtualBack hx (y := (⟨"java/util/BitSet", "toLongArray", "()[J"⟩ : MethodName)) (z := (⟨"java/util/BitSet", "toLongArray", "()[J"⟩ : MethodName)) hown (mvT hZ (ow hw 105 rfl)) (mvT hZ (ow hw 106 rfl)) (notFace_of_selects (args := #[]) (mvT hZ (ow hw 108 rfl))) (mvT hZ (ow hw 108 rfl)) (mvT hZ (ow hw 107 rfl)) (by decide) (backOf (W := 0) (rm_tla0 l Z a0 hw [] u658 f658 T658.heap n0 _ Z658  V658v O658q) hZ (ow hw 109 rfl) (ow hw 72 rfl) (by decide) (by decide)) q659a q659c (g := (mkF m 213 #[jv p0, sv, jv p1, sv, jv p2, sv, jv p3, sv, iv p4, iv (2 : Int32), iv (1 : Int32), iv fA, iv fC, rv b632, rv b637, jv ea, sv, jv eb, sv, iv (1 : Int32)] [(.ref u658)])) rfl (by rw [hml]; rfl) (Steps.refl _) (argsL := []) (rest := []) (lenOf pd_16 rfl) rfl (by show 2 * 0 + _ ≤ _; exact Nat.le_of_eq rfl) (hb hby at_213) (fun _ _ => ⟨rfl, rfl, Nat.le_of_ble_eq_true rfl, Nat.le_of_ble_eq_true rfl⟩)
          dsimp only [Pt.U, Pt.locs, Pt.cells, Pt.slots] at X659 l659 y659 z659 st659 hQ659
          rw [l659, y659, z659] at X659
          obtain ⟨e659, rfl, N659q, V659, O659q⟩ := hQ659
          have N659 := Fr.app N658 N659q
          have V659v : OView Z n0 T659.heap (oB e659 [] :: oS u658 [(.int (0 : Int32)), (.int (0 : Int32)), (.ref f658)] :: oB f658 [] :: oP b637 [(.ref ap638), (.ref as638), (.ref aq638), (.ref ax638), (.ref ak638), (.int (2 : Int32)), (.ref ag638), (.ref ab638), (.int (2 : Int32))] :: oB ag638 Gc :: oB b632 [p0, p1, p2, p3] :: []) := V659
          have Z659 : n0 ≤ T659.heap.size := V659v.big 0 rfl
          refine OGets.after st659 ?_
          refine OGets.step (fun _ => XS.lload X659.here hx rfl (hb hby at_216) rfl) ?_
          refine OGets.step (fun _ => XS.lload X659.here hx rfl (hb hby at_218) rfl) ?_
          obtain ⟨_, _, ⟨T660, L660, k660, n660⟩, -, X660, ⟨Lc660, hQ660, l660, y660, z660⟩, st660⟩ := Jvm.LawKit.callS X659 hx (y := (⟨"com/example/inya/inya/SearchPathGatherPinLaw", "matches", "([JJJ)Z"⟩ : MethodName)) hown (mvT hZ (ow hw 110 rfl)) (mvT hZ (ow hw 111 rfl)) (mvT hZ (ow hw 112 rfl)) (mvT hZ (ow hw 113 rfl)) (by decide) (backOf (W := 0) (rm_mt0 l Z a0 hw [] e659 ea eb T659.heap n0 _ Z659 hk1 hk0 V659v) hZ (ow hw 113 rfl) (ow hw 112 rfl) (by decide) (by decide)) (g := (mkF m 220 #[jv p0, sv, jv p1, sv, jv p2, sv, jv p3, sv, iv p4, iv (2 : Int32), iv (1 : Int32), iv fA, iv fC, rv b632, rv b637, jv ea, sv, jv eb, sv, iv (1 : Int32)] [(.long eb), (.long ea), (.ref e659)])) rfl (by rw [hml]; rfl) (argsL := [(.ref e659), (.long ea), (.long eb)]) (rest := []) (lenOf pd_17 rfl) rfl (by show 2 * 0 + _ ≤ _; exact Nat.le_of_eq rfl) (hb hby at_220) (fun _ _ => ⟨rfl, rfl, Nat.le_of_ble_eq_true rfl, Nat.le_of_ble_eq_true rfl⟩)
          dsimp only [Pt.U, Pt.locs, Pt.cells, Pt.slots] at X660 l660 y660 z660 st660 hQ660
          rw [l660, y660, z660] at X660
          obtain ⟨rfl, rfl, e660⟩ := hQ660
          have N660 := Fr.app N659 (Fr.nil n0)
          refine OGets.step st660 ?_
          refine OGets.step (fun _ => XS.ifNo X660.here hx rfl (hb hby at_223) rfl ((if0 _ _).trans (feq (by decide : ¬ ((1 : Int32) = (0 : Int32)))).1)) ?_
          refine OGets.step (fun _ => XS.aload X660.here hx rfl (hb hby at_226) rfl rfl) ?_
          refine OGets.step (fun _ => XS.iconst X660.here hx rfl (hb hby at_228)) ?_
          refine OGets.step (fun _ => XS.iload X660.here hx rfl (hb hby at_229) rfl) ?_
          refine OGets.step (fun _ => XS.isub X660.here hx rfl (hb hby at_231) rfl) ?_
          show OGets p e below _ (T660.setTop (mkF m 232 #[jv p0, sv, jv p1, sv, jv p2, sv, jv p3, sv, iv p4, iv (2 : Int32), iv (1 : Int32), iv fA, iv fC, rv b632, rv b637, jv ea, sv, jv eb, sv, iv (1 : Int32)] [(.int (0 : Int32)), (.ref b637)]))
          have V662_ : OView Z _ T659.heap (oP b637 [(.ref ap638), (.ref as638), (.ref aq638), (.ref ax638), (.ref ak638), (.int (2 : Int32)), (.ref ag638), (.ref ab638), (.int (2 : Int32))] :: oB ag638 Gc :: oB e659 [] :: oS u658 [(.int (0 : Int32)), (.int (0 : Int32)), (.ref f658)] :: oB f658 [] :: oB b632 [p0, p1, p2, p3] :: []) := ((V659v.bring 4 rfl).bring 4 rfl)
          obtain ⟨cq662, kq662, q662a, q662b, q662c⟩ := isOf hZ e660 (V662_.exa 0 rfl)
          obtain ⟨_, _, ⟨T662, L662, k662, n662⟩, -, X662, ⟨Lc662, hQ662, l662, y662, z662⟩, st662⟩ := X660.virtualBack hx (y := (⟨"com/example/inya/inya/SearchPath", "gathered", "(I)Ljava/util/BitSet;"⟩ : MethodName)) (z := (⟨"com/example/inya/inya/SearchPath", "gathered", "(I)Ljava/util/BitSet;"⟩ : MethodName)) hown (mvT hZ (ow hw 48 rfl)) (mvT hZ (ow hw 49 rfl)) (notFace_of_selects (args := #[]) (mvT hZ (ow hw 51 rfl))) (mvT hZ (ow hw 51 rfl)) (mvT hZ (ow hw 50 rfl)) (by decide) (backOf (W := 0) (rm_gtd200 l Z a0 hw [] b637 ap638 as638 aq638 ax638 ak638 ag638 ab638 Gc T659.heap n0 _ Z659 SA lGc (by rw [hGc, hGb, hGa]; rfl) (by rw [hGc, hGb, hGa]; rfl) V662_ O659q) hZ (ow hw 52 rfl) (ow hw 3 rfl) (by decide) (by decide)) q662a q662c (g := (mkF m 232 #[jv p0, sv, jv p1, sv, jv p2, sv, jv p3, sv, iv p4, iv (2 : Int32), iv (1 : Int32), iv fA, iv fC, rv b632, rv b637, jv ea, sv, jv eb, sv, iv (1 : Int32)] [(.int (0 : Int32)), (.ref b637)])) rfl (by rw [hml]; rfl) (Steps.refl _) (argsL := [(.int (0 : Int32))]) (rest := []) (lenOf pd_15 rfl) rfl (by show 2 * 0 + _ ≤ _; exact Nat.le_of_eq rfl) (hb hby at_232) (fun _ _ => ⟨rfl, e660, Nat.le_of_ble_eq_true rfl, Nat.le_of_ble_eq_true rfl⟩)
          dsimp only [Pt.U, Pt.locs, Pt.cells, Pt.slots] at X662 l662 y662 z662 st662 hQ662
          rw [l662, y662, z662] at X662
          obtain ⟨u662, f662, rfl, N662q, V662, O662q⟩ := hQ662
          have N662 := Fr.app N660 N662q
          have V662v : OView Z n0 T662.heap (oS u662 [(.int (0 : Int32)), (.int (0 : Int32)), (.ref f662)] :: oB f662 [] :: oP b637 [(.ref ap638), (.ref as638), (.ref aq638), (.ref ax638), (.ref ak638), (.int (2 : Int32)), (.ref ag638), (.ref ab638), (.int (2 : Int32))] :: oB ag638 Gc :: oB e659 [] :: oS u658 [(.int (0 : Int32)), (.int (0 : Int32)), (.ref f658)] :: oB f658 [] :: oB b632 [p0, p1, p2, p3] :: []) := V662
          have Z662 : n0 ≤ T662.heap.size := V662v.big 0 rfl
          refine OGets.after st662 ?_
          obtain ⟨cq663, kq663, q663a, q663b, q663c⟩ := isOf hZ rfl (V662v.exa 0 rfl)
          obtain ⟨_, _, ⟨T663, L663, k663, n663⟩, -, X663, ⟨Lc663, hQ663, l663, y663, z663⟩, st663⟩ := X662.virtualBack hx (y := (⟨"java/util/BitSet", "toLongArray", "()[J"⟩ : MethodName)) (z := (⟨"java/util/BitSet", "toLongArray", "()[J"⟩ : MethodName)) hown (mvT hZ (ow hw 105 rfl)) (mvT hZ (ow hw 106 rfl)) (notFace_of_selects (args := #[]) (mvT hZ (ow hw 108 rfl))) (mvT hZ (ow hw 108 rfl)) (mvT hZ (ow hw 107 rfl)) (by decide) (backOf (W := 0) (rm_tla0 l Z a0 hw [] u662 f662 T662.heap n0 _ Z662  V662v O662q) hZ (ow hw 109 rfl) (ow hw 72 rfl) (by decide) (by decide)) q663a q663c (g := (mkF m 235 #[jv p0, sv, jv p1, sv, jv p2, sv, jv p3, sv, iv p4, iv (2 : Int32), iv (1 : Int32), iv fA, iv fC, rv b632, rv b637, jv ea, sv, jv eb, sv, iv (1 : Int32)] [(.ref u662)])) rfl (by rw [hml]; rfl) (Steps.refl _) (argsL := []) (rest := []) (lenOf pd_16 rfl) rfl (by show 2 * 0 + _ ≤ _; exact Nat.le_of_eq rfl) (hb hby at_235) (fun _ _ => ⟨rfl, rfl, Nat.le_of_ble_eq_true rfl, Nat.le_of_ble_eq_true rfl⟩)
          dsimp only [Pt.U, Pt.locs, Pt.cells, Pt.slots] at X663 l663 y663 z663 st663 hQ663
          rw [l663, y663, z663] at X663
          obtain ⟨e663, rfl, N663q, V663, O663q⟩ := hQ663
          have N663 := Fr.app N662 N663q
          have V663v : OView Z n0 T663.heap (oB e663 [] :: oS u662 [(.int (0 : Int32)), (.int (0 : Int32)), (.ref f662)] :: oB f662 [] :: oP b637 [(.ref ap638), (.ref as638), (.ref aq638), (.ref ax638), (.ref ak638), (.int (2 : Int32)), (.ref ag638), (.ref ab638), (.int (2 : Int32))] :: oB ag638 Gc :: oB e659 [] :: oS u658 [(.int (0 : Int32)), (.int (0 : Int32)), (.ref f658)] :: oB f658 [] :: oB b632 [p0, p1, p2, p3] :: []) := V663
          have Z663 : n0 ≤ T663.heap.size := V663v.big 0 rfl
          refine OGets.after st663 ?_
          refine OGets.step (fun _ => XS.lconst X663.here hx rfl (hb hby at_238)) ?_
          refine OGets.step (fun _ => XS.lconst X663.here hx rfl (hb hby at_239)) ?_
          obtain ⟨_, _, ⟨T664, L664, k664, n664⟩, -, X664, ⟨Lc664, hQ664, l664, y664, z664⟩, st664⟩ := Jvm.LawKit.callS X663 hx (y := (⟨"com/example/inya/inya/SearchPathGatherPinLaw", "matches", "([JJJ)Z"⟩ : MethodName)) hown (mvT hZ (ow hw 110 rfl)) (mvT hZ (ow hw 111 rfl)) (mvT hZ (ow hw 112 rfl)) (mvT hZ (ow hw 113 rfl)) (by decide) (backOf (W := 0) (rm_mt0 l Z a0 hw [] e663 (0 : Int64) (0 : Int64) T663.heap n0 _ Z663 rfl rfl V663v) hZ (ow hw 113 rfl) (ow hw 112 rfl) (by decide) (by decide)) (g := (mkF m 240 #[jv p0, sv, jv p1, sv, jv p2, sv, jv p3, sv, iv p4, iv (2 : Int32), iv (1 : Int32), iv fA, iv fC, rv b632, rv b637, jv ea, sv, jv eb, sv, iv (1 : Int32)] [(.long (0 : Int64)), (.long (0 : Int64)), (.ref e663)])) rfl (by rw [hml]; rfl) (argsL := [(.ref e663), (.long (0 : Int64)), (.long (0 : Int64))]) (rest := []) (lenOf pd_17 rfl) rfl (by show 2 * 0 + _ ≤ _; exact Nat.le_of_eq rfl) (hb hby at_240) (fun _ _ => ⟨rfl, rfl, Nat.le_of_ble_eq_true rfl, Nat.le_of_ble_eq_true rfl⟩)
          dsimp only [Pt.U, Pt.locs, Pt.cells, Pt.slots] at X664 l664 y664 z664 st664 hQ664
          rw [l664, y664, z664] at X664
          obtain ⟨rfl, rfl, e664⟩ := hQ664
          have N664 := Fr.app N663 (Fr.nil n0)
          refine OGets.step st664 ?_
          refine OGets.step (fun _ => XS.ifNo X664.here hx rfl (hb hby at_243) rfl ((if0 _ _).trans (feq (by decide : ¬ ((1 : Int32) = (0 : Int32)))).1)) ?_
          refine OGets.step (fun _ => XS.iconst X664.here hx rfl (hb hby at_246)) ?_
          refine OGets.step (fun _ => XS.goto X664.here hx rfl (pc0 := 247) (pc' := 251) rfl (hb hby at_247) (by decide) (by decide)) ?_
          refine OGets.retN X664 hx hlk (t := .boolean) Bd.returns (by simp) (hb hby at_251) (Nat.le_of_ble_eq_true rfl) (Nat.le_of_ble_eq_true rfl) ?_
          exact ⟨rfl, N664⟩
        · show OGets p e below _ (T643.setTop (mkF m 206 #[jv p0, sv, jv p1, sv, jv p2, sv, jv p3, sv, iv p4, iv (2 : Int32), iv (1 : Int32), iv fA, iv fC, rv b632, rv b637, jv ea, sv, jv eb, sv, iv (1 : Int32)] []))
          refine OGets.step (fun _ => XS.aload X643.here hx rfl (hb hby at_206) rfl rfl) ?_
          refine OGets.step (fun _ => XS.iload X643.here hx rfl (hb hby at_208) rfl) ?_
          obtain ⟨cq666, kq666, q666a, q666b, q666c⟩ := isOf hZ rfl (V643v.exa 0 rfl)
          obtain ⟨_, _, ⟨T666, L666, k666, n666⟩, -, X666, ⟨Lc666, hQ666, l666, y666, z666⟩, st666⟩ := X643.virtualBack hx (y := (⟨"com/example/inya/inya/SearchPath", "gathered", "(I)Ljava/util/BitSet;"⟩ : MethodName)) (z := (⟨"com/example/inya/inya/SearchPath", "gathered", "(I)Ljava/util/BitSet;"⟩ : MethodName)) hown (mvT hZ (ow hw 48 rfl)) (mvT hZ (ow hw 49 rfl)) (notFace_of_selects (args := #[]) (mvT hZ (ow hw 51 rfl))) (mvT hZ (ow hw 51 rfl)) (mvT hZ (ow hw 50 rfl)) (by decide) (backOf (W := 0) (rm_gtd211 l Z a0 hw [] b637 ap638 as638 aq638 ax638 ak638 ag638 ab638 Gc T643.heap n0 _ Z643 SA lGc (by rw [hx0]; exact hk0) (by rw [hx1]; exact hk1) V643v O643q) hZ (ow hw 52 rfl) (ow hw 3 rfl) (by decide) (by decide)) q666a q666c (g := (mkF m 210 #[jv p0, sv, jv p1, sv, jv p2, sv, jv p3, sv, iv p4, iv (2 : Int32), iv (1 : Int32), iv fA, iv fC, rv b632, rv b637, jv ea, sv, jv eb, sv, iv (1 : Int32)] [(.int (1 : Int32)), (.ref b637)])) rfl (by rw [hml]; rfl) (Steps.refl _) (argsL := [(.int (1 : Int32))]) (rest := []) (lenOf pd_15 rfl) rfl (by show 2 * 0 + _ ≤ _; exact Nat.le_of_eq rfl) (hb hby at_210) (fun _ _ => ⟨rfl, rfl, Nat.le_of_ble_eq_true rfl, Nat.le_of_ble_eq_true rfl⟩)
          dsimp only [Pt.U, Pt.locs, Pt.cells, Pt.slots] at X666 l666 y666 z666 st666 hQ666
          rw [l666, y666, z666] at X666
          obtain ⟨u666, f666, rfl, N666q, V666, O666q⟩ := hQ666
          have N666 := Fr.app N643 N666q
          have V666v : OView Z n0 T666.heap (oS u666 [(.int (1 : Int32)), (.int (0 : Int32)), (.ref f666)] :: oB f666 [(gj Gc (2 : Int32))] :: oP b637 [(.ref ap638), (.ref as638), (.ref aq638), (.ref ax638), (.ref ak638), (.int (2 : Int32)), (.ref ag638), (.ref ab638), (.int (2 : Int32))] :: oB ag638 Gc :: oB b632 [p0, p1, p2, p3] :: []) := V666
          have Z666 : n0 ≤ T666.heap.size := V666v.big 0 rfl
          refine OGets.after st666 ?_
          obtain ⟨cq667, kq667, q667a, q667b, q667c⟩ := isOf hZ rfl (V666v.exa 0 rfl)
          obtain ⟨_, _, ⟨T667, L667, k667, n667⟩, -, X667, ⟨Lc667, hQ667, l667, y667, z667⟩, st667⟩ := X666.virtualBack hx (y := (⟨"java/util/BitSet", "toLongArray", "()[J"⟩ : MethodName)) (z := (⟨"java/util/BitSet", "toLongArray", "()[J"⟩ : MethodName)) hown (mvT hZ (ow hw 105 rfl)) (mvT hZ (ow hw 106 rfl)) (notFace_of_selects (args := #[]) (mvT hZ (ow hw 108 rfl))) (mvT hZ (ow hw 108 rfl)) (mvT hZ (ow hw 107 rfl)) (by decide) (backOf (W := 0) (rm_tla1 l Z a0 hw [] u666 f666 (gj Gc (2 : Int32)) T666.heap n0 _ Z666  V666v O666q) hZ (ow hw 109 rfl) (ow hw 72 rfl) (by decide) (by decide)) q667a q667c (g := (mkF m 213 #[jv p0, sv, jv p1, sv, jv p2, sv, jv p3, sv, iv p4, iv (2 : Int32), iv (1 : Int32), iv fA, iv fC, rv b632, rv b637, jv ea, sv, jv eb, sv, iv (1 : Int32)] [(.ref u666)])) rfl (by rw [hml]; rfl) (Steps.refl _) (argsL := []) (rest := []) (lenOf pd_16 rfl) rfl (by show 2 * 0 + _ ≤ _; exact Nat.le_of_eq rfl) (hb hby at_213) (fun _ _ => ⟨rfl, rfl, Nat.le_of_ble_eq_true rfl, Nat.le_of_ble_eq_true rfl⟩)
          dsimp only [Pt.U, Pt.locs, Pt.cells, Pt.slots] at X667 l667 y667 z667 st667 hQ667
          rw [l667, y667, z667] at X667
          obtain ⟨e667, rfl, N667q, V667, O667q⟩ := hQ667
          have N667 := Fr.app N666 N667q
          have V667v : OView Z n0 T667.heap (oB e667 [(gj Gc (2 : Int32))] :: oS u666 [(.int (1 : Int32)), (.int (0 : Int32)), (.ref f666)] :: oB f666 [(gj Gc (2 : Int32))] :: oP b637 [(.ref ap638), (.ref as638), (.ref aq638), (.ref ax638), (.ref ak638), (.int (2 : Int32)), (.ref ag638), (.ref ab638), (.int (2 : Int32))] :: oB ag638 Gc :: oB b632 [p0, p1, p2, p3] :: []) := V667
          have Z667 : n0 ≤ T667.heap.size := V667v.big 0 rfl
          refine OGets.after st667 ?_
          refine OGets.step (fun _ => XS.lload X667.here hx rfl (hb hby at_216) rfl) ?_
          refine OGets.step (fun _ => XS.lload X667.here hx rfl (hb hby at_218) rfl) ?_
          obtain ⟨_, _, ⟨T668, L668, k668, n668⟩, -, X668, ⟨Lc668, hQ668, l668, y668, z668⟩, st668⟩ := Jvm.LawKit.callS X667 hx (y := (⟨"com/example/inya/inya/SearchPathGatherPinLaw", "matches", "([JJJ)Z"⟩ : MethodName)) hown (mvT hZ (ow hw 110 rfl)) (mvT hZ (ow hw 111 rfl)) (mvT hZ (ow hw 112 rfl)) (mvT hZ (ow hw 113 rfl)) (by decide) (backOf (W := 0) (rm_mt1 l Z a0 hw [] e667 ea eb (gj Gc (2 : Int32)) T667.heap n0 _ Z667 hk1 hk0 hx0 V667v) hZ (ow hw 113 rfl) (ow hw 112 rfl) (by decide) (by decide)) (g := (mkF m 220 #[jv p0, sv, jv p1, sv, jv p2, sv, jv p3, sv, iv p4, iv (2 : Int32), iv (1 : Int32), iv fA, iv fC, rv b632, rv b637, jv ea, sv, jv eb, sv, iv (1 : Int32)] [(.long eb), (.long ea), (.ref e667)])) rfl (by rw [hml]; rfl) (argsL := [(.ref e667), (.long ea), (.long eb)]) (rest := []) (lenOf pd_17 rfl) rfl (by show 2 * 0 + _ ≤ _; exact Nat.le_of_eq rfl) (hb hby at_220) (fun _ _ => ⟨rfl, rfl, Nat.le_of_ble_eq_true rfl, Nat.le_of_ble_eq_true rfl⟩)
          dsimp only [Pt.U, Pt.locs, Pt.cells, Pt.slots] at X668 l668 y668 z668 st668 hQ668
          rw [l668, y668, z668] at X668
          obtain ⟨rfl, rfl, e668⟩ := hQ668
          have N668 := Fr.app N667 (Fr.nil n0)
          refine OGets.step st668 ?_
          refine OGets.step (fun _ => XS.ifNo X668.here hx rfl (hb hby at_223) rfl ((if0 _ _).trans (feq (by decide : ¬ ((1 : Int32) = (0 : Int32)))).1)) ?_
          refine OGets.step (fun _ => XS.aload X668.here hx rfl (hb hby at_226) rfl rfl) ?_
          refine OGets.step (fun _ => XS.iconst X668.here hx rfl (hb hby at_228)) ?_
          refine OGets.step (fun _ => XS.iload X668.here hx rfl (hb hby at_229) rfl) ?_
          refine OGets.step (fun _ => XS.isub X668.here hx rfl (hb hby at_231) rfl) ?_
          show OGets p e below _ (T668.setTop (mkF m 232 #[jv p0, sv, jv p1, sv, jv p2, sv, jv p3, sv, iv p4, iv (2 : Int32), iv (1 : Int32), iv fA, iv fC, rv b632, rv b637, jv ea, sv, jv eb, sv, iv (1 : Int32)] [(.int (0 : Int32)), (.ref b637)]))
          have V670_ : OView Z _ T667.heap (oP b637 [(.ref ap638), (.ref as638), (.ref aq638), (.ref ax638), (.ref ak638), (.int (2 : Int32)), (.ref ag638), (.ref ab638), (.int (2 : Int32))] :: oB ag638 Gc :: oB e667 [(gj Gc (2 : Int32))] :: oS u666 [(.int (1 : Int32)), (.int (0 : Int32)), (.ref f666)] :: oB f666 [(gj Gc (2 : Int32))] :: oB b632 [p0, p1, p2, p3] :: []) := ((V667v.bring 4 rfl).bring 4 rfl)
          obtain ⟨cq670, kq670, q670a, q670b, q670c⟩ := isOf hZ e668 (V670_.exa 0 rfl)
          obtain ⟨_, _, ⟨T670, L670, k670, n670⟩, -, X670, ⟨Lc670, hQ670, l670, y670, z670⟩, st670⟩ := X668.virtualBack hx (y := (⟨"com/example/inya/inya/SearchPath", "gathered", "(I)Ljava/util/BitSet;"⟩ : MethodName)) (z := (⟨"com/example/inya/inya/SearchPath", "gathered", "(I)Ljava/util/BitSet;"⟩ : MethodName)) hown (mvT hZ (ow hw 48 rfl)) (mvT hZ (ow hw 49 rfl)) (notFace_of_selects (args := #[]) (mvT hZ (ow hw 51 rfl))) (mvT hZ (ow hw 51 rfl)) (mvT hZ (ow hw 50 rfl)) (by decide) (backOf (W := 0) (rm_gtd200 l Z a0 hw [] b637 ap638 as638 aq638 ax638 ak638 ag638 ab638 Gc T667.heap n0 _ Z667 SA lGc (by rw [hGc, hGb, hGa]; rfl) (by rw [hGc, hGb, hGa]; rfl) V670_ O667q) hZ (ow hw 52 rfl) (ow hw 3 rfl) (by decide) (by decide)) q670a q670c (g := (mkF m 232 #[jv p0, sv, jv p1, sv, jv p2, sv, jv p3, sv, iv p4, iv (2 : Int32), iv (1 : Int32), iv fA, iv fC, rv b632, rv b637, jv ea, sv, jv eb, sv, iv (1 : Int32)] [(.int (0 : Int32)), (.ref b637)])) rfl (by rw [hml]; rfl) (Steps.refl _) (argsL := [(.int (0 : Int32))]) (rest := []) (lenOf pd_15 rfl) rfl (by show 2 * 0 + _ ≤ _; exact Nat.le_of_eq rfl) (hb hby at_232) (fun _ _ => ⟨rfl, e668, Nat.le_of_ble_eq_true rfl, Nat.le_of_ble_eq_true rfl⟩)
          dsimp only [Pt.U, Pt.locs, Pt.cells, Pt.slots] at X670 l670 y670 z670 st670 hQ670
          rw [l670, y670, z670] at X670
          obtain ⟨u670, f670, rfl, N670q, V670, O670q⟩ := hQ670
          have N670 := Fr.app N668 N670q
          have V670v : OView Z n0 T670.heap (oS u670 [(.int (0 : Int32)), (.int (0 : Int32)), (.ref f670)] :: oB f670 [] :: oP b637 [(.ref ap638), (.ref as638), (.ref aq638), (.ref ax638), (.ref ak638), (.int (2 : Int32)), (.ref ag638), (.ref ab638), (.int (2 : Int32))] :: oB ag638 Gc :: oB e667 [(gj Gc (2 : Int32))] :: oS u666 [(.int (1 : Int32)), (.int (0 : Int32)), (.ref f666)] :: oB f666 [(gj Gc (2 : Int32))] :: oB b632 [p0, p1, p2, p3] :: []) := V670
          have Z670 : n0 ≤ T670.heap.size := V670v.big 0 rfl
          refine OGets.after st670 ?_
          obtain ⟨cq671, kq671, q671a, q671b, q671c⟩ := isOf hZ rfl (V670v.exa 0 rfl)
          obtain ⟨_, _, ⟨T671, L671, k671, n671⟩, -, X671, ⟨Lc671, hQ671, l671, y671, z671⟩, st671⟩ := X670.virtualBack hx (y := (⟨"java/util/BitSet", "toLongArray", "()[J"⟩ : MethodName)) (z := (⟨"java/util/BitSet", "toLongArray", "()[J"⟩ : MethodName)) hown (mvT hZ (ow hw 105 rfl)) (mvT hZ (ow hw 106 rfl)) (notFace_of_selects (args := #[]) (mvT hZ (ow hw 108 rfl))) (mvT hZ (ow hw 108 rfl)) (mvT hZ (ow hw 107 rfl)) (by decide) (backOf (W := 0) (rm_tla0 l Z a0 hw [] u670 f670 T670.heap n0 _ Z670  V670v O670q) hZ (ow hw 109 rfl) (ow hw 72 rfl) (by decide) (by decide)) q671a q671c (g := (mkF m 235 #[jv p0, sv, jv p1, sv, jv p2, sv, jv p3, sv, iv p4, iv (2 : Int32), iv (1 : Int32), iv fA, iv fC, rv b632, rv b637, jv ea, sv, jv eb, sv, iv (1 : Int32)] [(.ref u670)])) rfl (by rw [hml]; rfl) (Steps.refl _) (argsL := []) (rest := []) (lenOf pd_16 rfl) rfl (by show 2 * 0 + _ ≤ _; exact Nat.le_of_eq rfl) (hb hby at_235) (fun _ _ => ⟨rfl, rfl, Nat.le_of_ble_eq_true rfl, Nat.le_of_ble_eq_true rfl⟩)
          dsimp only [Pt.U, Pt.locs, Pt.cells, Pt.slots] at X671 l671 y671 z671 st671 hQ671
          rw [l671, y671, z671] at X671
          obtain ⟨e671, rfl, N671q, V671, O671q⟩ := hQ671
          have N671 := Fr.app N670 N671q
          have V671v : OView Z n0 T671.heap (oB e671 [] :: oS u670 [(.int (0 : Int32)), (.int (0 : Int32)), (.ref f670)] :: oB f670 [] :: oP b637 [(.ref ap638), (.ref as638), (.ref aq638), (.ref ax638), (.ref ak638), (.int (2 : Int32)), (.ref ag638), (.ref ab638), (.int (2 : Int32))] :: oB ag638 Gc :: oB e667 [(gj Gc (2 : Int32))] :: oS u666 [(.int (1 : Int32)), (.int (0 : Int32)), (.ref f666)] :: oB f666 [(gj Gc (2 : Int32))] :: oB b632 [p0, p1, p2, p3] :: []) := V671
          have Z671 : n0 ≤ T671.heap.size := V671v.big 0 rfl
          refine OGets.after st671 ?_
          refine OGets.step (fun _ => XS.lconst X671.here hx rfl (hb hby at_238)) ?_
          refine OGets.step (fun _ => XS.lconst X671.here hx rfl (hb hby at_239)) ?_
          obtain ⟨_, _, ⟨T672, L672, k672, n672⟩, -, X672, ⟨Lc672, hQ672, l672, y672, z672⟩, st672⟩ := Jvm.LawKit.callS X671 hx (y := (⟨"com/example/inya/inya/SearchPathGatherPinLaw", "matches", "([JJJ)Z"⟩ : MethodName)) hown (mvT hZ (ow hw 110 rfl)) (mvT hZ (ow hw 111 rfl)) (mvT hZ (ow hw 112 rfl)) (mvT hZ (ow hw 113 rfl)) (by decide) (backOf (W := 0) (rm_mt0 l Z a0 hw [] e671 (0 : Int64) (0 : Int64) T671.heap n0 _ Z671 rfl rfl V671v) hZ (ow hw 113 rfl) (ow hw 112 rfl) (by decide) (by decide)) (g := (mkF m 240 #[jv p0, sv, jv p1, sv, jv p2, sv, jv p3, sv, iv p4, iv (2 : Int32), iv (1 : Int32), iv fA, iv fC, rv b632, rv b637, jv ea, sv, jv eb, sv, iv (1 : Int32)] [(.long (0 : Int64)), (.long (0 : Int64)), (.ref e671)])) rfl (by rw [hml]; rfl) (argsL := [(.ref e671), (.long (0 : Int64)), (.long (0 : Int64))]) (rest := []) (lenOf pd_17 rfl) rfl (by show 2 * 0 + _ ≤ _; exact Nat.le_of_eq rfl) (hb hby at_240) (fun _ _ => ⟨rfl, rfl, Nat.le_of_ble_eq_true rfl, Nat.le_of_ble_eq_true rfl⟩)
          dsimp only [Pt.U, Pt.locs, Pt.cells, Pt.slots] at X672 l672 y672 z672 st672 hQ672
          rw [l672, y672, z672] at X672
          obtain ⟨rfl, rfl, e672⟩ := hQ672
          have N672 := Fr.app N671 (Fr.nil n0)
          refine OGets.step st672 ?_
          refine OGets.step (fun _ => XS.ifNo X672.here hx rfl (hb hby at_243) rfl ((if0 _ _).trans (feq (by decide : ¬ ((1 : Int32) = (0 : Int32)))).1)) ?_
          refine OGets.step (fun _ => XS.iconst X672.here hx rfl (hb hby at_246)) ?_
          refine OGets.step (fun _ => XS.goto X672.here hx rfl (pc0 := 247) (pc' := 251) rfl (hb hby at_247) (by decide) (by decide)) ?_
          refine OGets.retN X672 hx hlk (t := .boolean) Bd.returns (by simp) (hb hby at_251) (Nat.le_of_ble_eq_true rfl) (Nat.le_of_ble_eq_true rfl) ?_
          exact ⟨rfl, N672⟩
      · show OGets p e below _ (T643.setTop (mkF m 206 #[jv p0, sv, jv p1, sv, jv p2, sv, jv p3, sv, iv p4, iv (2 : Int32), iv (1 : Int32), iv fA, iv fC, rv b632, rv b637, jv ea, sv, jv eb, sv, iv (1 : Int32)] []))
        refine OGets.step (fun _ => XS.aload X643.here hx rfl (hb hby at_206) rfl rfl) ?_
        refine OGets.step (fun _ => XS.iload X643.here hx rfl (hb hby at_208) rfl) ?_
        obtain ⟨cq674, kq674, q674a, q674b, q674c⟩ := isOf hZ rfl (V643v.exa 0 rfl)
        obtain ⟨_, _, ⟨T674, L674, k674, n674⟩, -, X674, ⟨Lc674, hQ674, l674, y674, z674⟩, st674⟩ := X643.virtualBack hx (y := (⟨"com/example/inya/inya/SearchPath", "gathered", "(I)Ljava/util/BitSet;"⟩ : MethodName)) (z := (⟨"com/example/inya/inya/SearchPath", "gathered", "(I)Ljava/util/BitSet;"⟩ : MethodName)) hown (mvT hZ (ow hw 48 rfl)) (mvT hZ (ow hw 49 rfl)) (notFace_of_selects (args := #[]) (mvT hZ (ow hw 51 rfl))) (mvT hZ (ow hw 51 rfl)) (mvT hZ (ow hw 50 rfl)) (by decide) (backOf (W := 0) (rm_gtd212 l Z a0 hw [] b637 ap638 as638 aq638 ax638 ak638 ag638 ab638 Gc T643.heap n0 _ Z643 SA lGc (by rw [hx1]; exact hk1) V643v O643q) hZ (ow hw 52 rfl) (ow hw 3 rfl) (by decide) (by decide)) q674a q674c (g := (mkF m 210 #[jv p0, sv, jv p1, sv, jv p2, sv, jv p3, sv, iv p4, iv (2 : Int32), iv (1 : Int32), iv fA, iv fC, rv b632, rv b637, jv ea, sv, jv eb, sv, iv (1 : Int32)] [(.int (1 : Int32)), (.ref b637)])) rfl (by rw [hml]; rfl) (Steps.refl _) (argsL := [(.int (1 : Int32))]) (rest := []) (lenOf pd_15 rfl) rfl (by show 2 * 0 + _ ≤ _; exact Nat.le_of_eq rfl) (hb hby at_210) (fun _ _ => ⟨rfl, rfl, Nat.le_of_ble_eq_true rfl, Nat.le_of_ble_eq_true rfl⟩)
        dsimp only [Pt.U, Pt.locs, Pt.cells, Pt.slots] at X674 l674 y674 z674 st674 hQ674
        rw [l674, y674, z674] at X674
        obtain ⟨u674, f674, rfl, N674q, V674, O674q⟩ := hQ674
        have N674 := Fr.app N643 N674q
        have V674v : OView Z n0 T674.heap (oS u674 [(.int (2 : Int32)), (.int (0 : Int32)), (.ref f674)] :: oB f674 [(gj Gc (2 : Int32)), (gj Gc (3 : Int32))] :: oP b637 [(.ref ap638), (.ref as638), (.ref aq638), (.ref ax638), (.ref ak638), (.int (2 : Int32)), (.ref ag638), (.ref ab638), (.int (2 : Int32))] :: oB ag638 Gc :: oB b632 [p0, p1, p2, p3] :: []) := V674
        have Z674 : n0 ≤ T674.heap.size := V674v.big 0 rfl
        refine OGets.after st674 ?_
        obtain ⟨cq675, kq675, q675a, q675b, q675c⟩ := isOf hZ rfl (V674v.exa 0 rfl)
        obtain ⟨_, _, ⟨T675, L675, k675, n675⟩, -, X675, ⟨Lc675, hQ675, l675, y675, z675⟩, st675⟩ := X674.virtualBack hx (y := (⟨"java/util/BitSet", "toLongArray", "()[J"⟩ : MethodName)) (z := (⟨"java/util/BitSet", "toLongArray", "()[J"⟩ : MethodName)) hown (mvT hZ (ow hw 105 rfl)) (mvT hZ (ow hw 106 rfl)) (notFace_of_selects (args := #[]) (mvT hZ (ow hw 108 rfl))) (mvT hZ (ow hw 108 rfl)) (mvT hZ (ow hw 107 rfl)) (by decide) (backOf (W := 0) (rm_tla2 l Z a0 hw [] u674 f674 (gj Gc (2 : Int32)) (gj Gc (3 : Int32)) T674.heap n0 _ Z674  V674v O674q) hZ (ow hw 109 rfl) (ow hw 72 rfl) (by decide) (by decide)) q675a q675c (g := (mkF m 213 #[jv p0, sv, jv p1, sv, jv p2, sv, jv p3, sv, iv p4, iv (2 : Int32), iv (1 : Int32), iv fA, iv fC, rv b632, rv b637, jv ea, sv, jv eb, sv, iv (1 : Int32)] [(.ref u674)])) rfl (by rw [hml]; rfl) (Steps.refl _) (argsL := []) (rest := []) (lenOf pd_16 rfl) rfl (by show 2 * 0 + _ ≤ _; exact Nat.le_of_eq rfl) (hb hby at_213) (fun _ _ => ⟨rfl, rfl, Nat.le_of_ble_eq_true rfl, Nat.le_of_ble_eq_true rfl⟩)
        dsimp only [Pt.U, Pt.locs, Pt.cells, Pt.slots] at X675 l675 y675 z675 st675 hQ675
        rw [l675, y675, z675] at X675
        obtain ⟨e675, rfl, N675q, V675, O675q⟩ := hQ675
        have N675 := Fr.app N674 N675q
        have V675v : OView Z n0 T675.heap (oB e675 [(gj Gc (2 : Int32)), (gj Gc (3 : Int32))] :: oS u674 [(.int (2 : Int32)), (.int (0 : Int32)), (.ref f674)] :: oB f674 [(gj Gc (2 : Int32)), (gj Gc (3 : Int32))] :: oP b637 [(.ref ap638), (.ref as638), (.ref aq638), (.ref ax638), (.ref ak638), (.int (2 : Int32)), (.ref ag638), (.ref ab638), (.int (2 : Int32))] :: oB ag638 Gc :: oB b632 [p0, p1, p2, p3] :: []) := V675
        have Z675 : n0 ≤ T675.heap.size := V675v.big 0 rfl
        refine OGets.after st675 ?_
        refine OGets.step (fun _ => XS.lload X675.here hx rfl (hb hby at_216) rfl) ?_
        refine OGets.step (fun _ => XS.lload X675.here hx rfl (hb hby at_218) rfl) ?_
        obtain ⟨_, _, ⟨T676, L676, k676, n676⟩, -, X676, ⟨Lc676, hQ676, l676, y676, z676⟩, st676⟩ := Jvm.LawKit.callS X675 hx (y := (⟨"com/example/inya/inya/SearchPathGatherPinLaw", "matches", "([JJJ)Z"⟩ : MethodName)) hown (mvT hZ (ow hw 110 rfl)) (mvT hZ (ow hw 111 rfl)) (mvT hZ (ow hw 112 rfl)) (mvT hZ (ow hw 113 rfl)) (by decide) (backOf (W := 0) (rm_mt2 l Z a0 hw [] e675 ea eb (gj Gc (2 : Int32)) (gj Gc (3 : Int32)) T675.heap n0 _ Z675 hk1 hx0 hx1 V675v) hZ (ow hw 113 rfl) (ow hw 112 rfl) (by decide) (by decide)) (g := (mkF m 220 #[jv p0, sv, jv p1, sv, jv p2, sv, jv p3, sv, iv p4, iv (2 : Int32), iv (1 : Int32), iv fA, iv fC, rv b632, rv b637, jv ea, sv, jv eb, sv, iv (1 : Int32)] [(.long eb), (.long ea), (.ref e675)])) rfl (by rw [hml]; rfl) (argsL := [(.ref e675), (.long ea), (.long eb)]) (rest := []) (lenOf pd_17 rfl) rfl (by show 2 * 0 + _ ≤ _; exact Nat.le_of_eq rfl) (hb hby at_220) (fun _ _ => ⟨rfl, rfl, Nat.le_of_ble_eq_true rfl, Nat.le_of_ble_eq_true rfl⟩)
        dsimp only [Pt.U, Pt.locs, Pt.cells, Pt.slots] at X676 l676 y676 z676 st676 hQ676
        rw [l676, y676, z676] at X676
        obtain ⟨rfl, rfl, e676⟩ := hQ676
        have N676 := Fr.app N675 (Fr.nil n0)
        refine OGets.step st676 ?_
        refine OGets.step (fun _ => XS.ifNo X676.here hx rfl (hb hby at_223) rfl ((if0 _ _).trans (feq (by decide : ¬ ((1 : Int32) = (0 : Int32)))).1)) ?_
        refine OGets.step (fun _ => XS.aload X676.here hx rfl (hb hby at_226) rfl rfl) ?_
        refine OGets.step (fun _ => XS.iconst X676.here hx rfl (hb hby at_228)) ?_
        refine OGets.step (fun _ => XS.iload X676.here hx rfl (hb hby at_229) rfl) ?_
        refine OGets.step (fun _ => XS.isub X676.here hx rfl (hb hby at_231) rfl) ?_
        show OGets p e below _ (T676.setTop (mkF m 232 #[jv p0, sv, jv p1, sv, jv p2, sv, jv p3, sv, iv p4, iv (2 : Int32), iv (1 : Int32), iv fA, iv fC, rv b632, rv b637, jv ea, sv, jv eb, sv, iv (1 : Int32)] [(.int (0 : Int32)), (.ref b637)]))
        have V678_ : OView Z _ T675.heap (oP b637 [(.ref ap638), (.ref as638), (.ref aq638), (.ref ax638), (.ref ak638), (.int (2 : Int32)), (.ref ag638), (.ref ab638), (.int (2 : Int32))] :: oB ag638 Gc :: oB e675 [(gj Gc (2 : Int32)), (gj Gc (3 : Int32))] :: oS u674 [(.int (2 : Int32)), (.int (0 : Int32)), (.ref f674)] :: oB f674 [(gj Gc (2 : Int32)), (gj Gc (3 : Int32))] :: oB b632 [p0, p1, p2, p3] :: []) := ((V675v.bring 4 rfl).bring 4 rfl)
        obtain ⟨cq678, kq678, q678a, q678b, q678c⟩ := isOf hZ e676 (V678_.exa 0 rfl)
        obtain ⟨_, _, ⟨T678, L678, k678, n678⟩, -, X678, ⟨Lc678, hQ678, l678, y678, z678⟩, st678⟩ := X676.virtualBack hx (y := (⟨"com/example/inya/inya/SearchPath", "gathered", "(I)Ljava/util/BitSet;"⟩ : MethodName)) (z := (⟨"com/example/inya/inya/SearchPath", "gathered", "(I)Ljava/util/BitSet;"⟩ : MethodName)) hown (mvT hZ (ow hw 48 rfl)) (mvT hZ (ow hw 49 rfl)) (notFace_of_selects (args := #[]) (mvT hZ (ow hw 51 rfl))) (mvT hZ (ow hw 51 rfl)) (mvT hZ (ow hw 50 rfl)) (by decide) (backOf (W := 0) (rm_gtd200 l Z a0 hw [] b637 ap638 as638 aq638 ax638 ak638 ag638 ab638 Gc T675.heap n0 _ Z675 SA lGc (by rw [hGc, hGb, hGa]; rfl) (by rw [hGc, hGb, hGa]; rfl) V678_ O675q) hZ (ow hw 52 rfl) (ow hw 3 rfl) (by decide) (by decide)) q678a q678c (g := (mkF m 232 #[jv p0, sv, jv p1, sv, jv p2, sv, jv p3, sv, iv p4, iv (2 : Int32), iv (1 : Int32), iv fA, iv fC, rv b632, rv b637, jv ea, sv, jv eb, sv, iv (1 : Int32)] [(.int (0 : Int32)), (.ref b637)])) rfl (by rw [hml]; rfl) (Steps.refl _) (argsL := [(.int (0 : Int32))]) (rest := []) (lenOf pd_15 rfl) rfl (by show 2 * 0 + _ ≤ _; exact Nat.le_of_eq rfl) (hb hby at_232) (fun _ _ => ⟨rfl, e676, Nat.le_of_ble_eq_true rfl, Nat.le_of_ble_eq_true rfl⟩)
        dsimp only [Pt.U, Pt.locs, Pt.cells, Pt.slots] at X678 l678 y678 z678 st678 hQ678
        rw [l678, y678, z678] at X678
        obtain ⟨u678, f678, rfl, N678q, V678, O678q⟩ := hQ678
        have N678 := Fr.app N676 N678q
        have V678v : OView Z n0 T678.heap (oS u678 [(.int (0 : Int32)), (.int (0 : Int32)), (.ref f678)] :: oB f678 [] :: oP b637 [(.ref ap638), (.ref as638), (.ref aq638), (.ref ax638), (.ref ak638), (.int (2 : Int32)), (.ref ag638), (.ref ab638), (.int (2 : Int32))] :: oB ag638 Gc :: oB e675 [(gj Gc (2 : Int32)), (gj Gc (3 : Int32))] :: oS u674 [(.int (2 : Int32)), (.int (0 : Int32)), (.ref f674)] :: oB f674 [(gj Gc (2 : Int32)), (gj Gc (3 : Int32))] :: oB b632 [p0, p1, p2, p3] :: []) := V678
        have Z678 : n0 ≤ T678.heap.size := V678v.big 0 rfl
        refine OGets.after st678 ?_
        obtain ⟨cq679, kq679, q679a, q679b, q679c⟩ := isOf hZ rfl (V678v.exa 0 rfl)
        obtain ⟨_, _, ⟨T679, L679, k679, n679⟩, -, X679, ⟨Lc679, hQ679, l679, y679, z679⟩, st679⟩ := X678.virtualBack hx (y := (⟨"java/util/BitSet", "toLongArray", "()[J"⟩ : MethodName)) (z := (⟨"java/util/BitSet", "toLongArray", "()[J"⟩ : MethodName)) hown (mvT hZ (ow hw 105 rfl)) (mvT hZ (ow hw 106 rfl)) (notFace_of_selects (args := #[]) (mvT hZ (ow hw 108 rfl))) (mvT hZ (ow hw 108 rfl)) (mvT hZ (ow hw 107 rfl)) (by decide) (backOf (W := 0) (rm_tla0 l Z a0 hw [] u678 f678 T678.heap n0 _ Z678  V678v O678q) hZ (ow hw 109 rfl) (ow hw 72 rfl) (by decide) (by decide)) q679a q679c (g := (mkF m 235 #[jv p0, sv, jv p1, sv, jv p2, sv, jv p3, sv, iv p4, iv (2 : Int32), iv (1 : Int32), iv fA, iv fC, rv b632, rv b637, jv ea, sv, jv eb, sv, iv (1 : Int32)] [(.ref u678)])) rfl (by rw [hml]; rfl) (Steps.refl _) (argsL := []) (rest := []) (lenOf pd_16 rfl) rfl (by show 2 * 0 + _ ≤ _; exact Nat.le_of_eq rfl) (hb hby at_235) (fun _ _ => ⟨rfl, rfl, Nat.le_of_ble_eq_true rfl, Nat.le_of_ble_eq_true rfl⟩)
        dsimp only [Pt.U, Pt.locs, Pt.cells, Pt.slots] at X679 l679 y679 z679 st679 hQ679
        rw [l679, y679, z679] at X679
        obtain ⟨e679, rfl, N679q, V679, O679q⟩ := hQ679
        have N679 := Fr.app N678 N679q
        have V679v : OView Z n0 T679.heap (oB e679 [] :: oS u678 [(.int (0 : Int32)), (.int (0 : Int32)), (.ref f678)] :: oB f678 [] :: oP b637 [(.ref ap638), (.ref as638), (.ref aq638), (.ref ax638), (.ref ak638), (.int (2 : Int32)), (.ref ag638), (.ref ab638), (.int (2 : Int32))] :: oB ag638 Gc :: oB e675 [(gj Gc (2 : Int32)), (gj Gc (3 : Int32))] :: oS u674 [(.int (2 : Int32)), (.int (0 : Int32)), (.ref f674)] :: oB f674 [(gj Gc (2 : Int32)), (gj Gc (3 : Int32))] :: oB b632 [p0, p1, p2, p3] :: []) := V679
        have Z679 : n0 ≤ T679.heap.size := V679v.big 0 rfl
        refine OGets.after st679 ?_
        refine OGets.step (fun _ => XS.lconst X679.here hx rfl (hb hby at_238)) ?_
        refine OGets.step (fun _ => XS.lconst X679.here hx rfl (hb hby at_239)) ?_
        obtain ⟨_, _, ⟨T680, L680, k680, n680⟩, -, X680, ⟨Lc680, hQ680, l680, y680, z680⟩, st680⟩ := Jvm.LawKit.callS X679 hx (y := (⟨"com/example/inya/inya/SearchPathGatherPinLaw", "matches", "([JJJ)Z"⟩ : MethodName)) hown (mvT hZ (ow hw 110 rfl)) (mvT hZ (ow hw 111 rfl)) (mvT hZ (ow hw 112 rfl)) (mvT hZ (ow hw 113 rfl)) (by decide) (backOf (W := 0) (rm_mt0 l Z a0 hw [] e679 (0 : Int64) (0 : Int64) T679.heap n0 _ Z679 rfl rfl V679v) hZ (ow hw 113 rfl) (ow hw 112 rfl) (by decide) (by decide)) (g := (mkF m 240 #[jv p0, sv, jv p1, sv, jv p2, sv, jv p3, sv, iv p4, iv (2 : Int32), iv (1 : Int32), iv fA, iv fC, rv b632, rv b637, jv ea, sv, jv eb, sv, iv (1 : Int32)] [(.long (0 : Int64)), (.long (0 : Int64)), (.ref e679)])) rfl (by rw [hml]; rfl) (argsL := [(.ref e679), (.long (0 : Int64)), (.long (0 : Int64))]) (rest := []) (lenOf pd_17 rfl) rfl (by show 2 * 0 + _ ≤ _; exact Nat.le_of_eq rfl) (hb hby at_240) (fun _ _ => ⟨rfl, rfl, Nat.le_of_ble_eq_true rfl, Nat.le_of_ble_eq_true rfl⟩)
        dsimp only [Pt.U, Pt.locs, Pt.cells, Pt.slots] at X680 l680 y680 z680 st680 hQ680
        rw [l680, y680, z680] at X680
        obtain ⟨rfl, rfl, e680⟩ := hQ680
        have N680 := Fr.app N679 (Fr.nil n0)
        refine OGets.step st680 ?_
        refine OGets.step (fun _ => XS.ifNo X680.here hx rfl (hb hby at_243) rfl ((if0 _ _).trans (feq (by decide : ¬ ((1 : Int32) = (0 : Int32)))).1)) ?_
        refine OGets.step (fun _ => XS.iconst X680.here hx rfl (hb hby at_246)) ?_
        refine OGets.step (fun _ => XS.goto X680.here hx rfl (pc0 := 247) (pc' := 251) rfl (hb hby at_247) (by decide) (by decide)) ?_
        refine OGets.retN X680 hx hlk (t := .boolean) Bd.returns (by simp) (hb hby at_251) (Nat.le_of_ble_eq_true rfl) (Nat.le_of_ble_eq_true rfl) ?_
        exact ⟨rfl, N680⟩
theorem own_steq {s : State} {args : Array Value} {C f d : String} {k : Int32} (q : (Jvm.Cond.eq (Jvm.Term.static C f d) (Jvm.Term.int k)).value args s none s [] = some true) (i : (Jvm.Cond.initializedFor C f d).before args s = true) : Sta s s.heap C f d (.int k) := by
  obtain ⟨x, y, h1, h2, -, h4⟩ := cmp_v (Or.inl q)
  cases h2.symm.trans (Term.int_eval k)
  obtain ⟨z, rfl⟩ := h4
  have e : z = k := gotT (Cond.eq_ints h1 (Term.int_eval k)) q
  subst e
  exact Sta.start h1 (Or.inl i)
set_option maxRecDepth 65536 in
set_option maxHeartbeats 40000000 in
theorem comes_1 {Post : Tables → Env → Array Value → State → Outcome → State → Prop} (hpost : ∀ tb e args s v u, (limb_1_1.after args s (.returned v) u = true ∧ limb_1_2.after args s (.returned v) u = true ∧ True) → FrameEnd s (.returned v) u (Jvm.fieldLocs frame_1_writes args s ++ Jvm.arrayLocs frame_1_arrays args s ++ Jvm.staticLocs frame_1_statics s) 48 448 → Post tb e args s (.returned v) u) :
    ArmFor flags0 classFile x code maxLocals ret World_1 tables_1 room_1 Calls_1 rest_1 Pre_1 Post := by
  intro l hfl _ _ p e ha hc hk s m args below hf hA hF happ hP
  obtain ⟨hcalls, hrest, hpre⟩ := hP
  obtain ⟨-, -, -, hnamed, -, -, -, hat⟩ := (Spec.applies_iff hf).mp happ
  obtain ⟨hg, hn⟩ := and_e (Cond.before_iff.mp (show (Jvm.Cond.and given_1 narrow_1).before args s = true from hpre))
  obtain ⟨hcount, hg0⟩ := and_e hg
  obtain ⟨ga0, hg1⟩ := and_e hg0
  obtain ⟨ga1, hg2⟩ := and_e hg1
  obtain ⟨ga2, hg3⟩ := and_e hg2
  obtain ⟨ga3, hg4⟩ := and_e hg3
  have ga4 := hg4
  obtain ⟨w0, w1, w2, w3, w4, rfl⟩ : ∃ w0 w1 w2 w3 w4 : Value, args = #[w0, w1, w2, w3, w4] := by
    have hs : args.size = 5 := by simpa [Cond.value, given_1] using hcount
    obtain ⟨L⟩ := args
    match L, hs with
    | [w0, w1, w2, w3, w4], _ => exact ⟨w0, w1, w2, w3, w4, rfl⟩
  have hw := fun d (hd : d ∈ tables_1) => atoms_spec (ws := Jvm.Cond.code x code maxLocals ret :: tables_1) hat d (List.mem_cons_of_mem _ hd)
  have hfit : Fit s := fun {y c} hc i hi => by
    obtain ⟨ha, rfl⟩ := Array.getElem?_eq_some_iff.mp hc
    have q := List.all_eq_true.mp ((Array.all_eq_true_iff_forall_mem.mp hF) _ (Array.getElem_mem ha)) i (List.mem_range.mpr hi)
    simpa [Array.getElem?_eq_getElem hi] using q
  obtain ⟨i0, ei0⟩ := isL_v ga0
  obtain rfl : w0 = (.long i0) := Option.some.inj ei0
  obtain ⟨i1, ei1⟩ := isL_v ga1
  obtain rfl : w1 = (.long i1) := Option.some.inj ei1
  obtain ⟨i2, ei2⟩ := isL_v ga2
  obtain rfl : w2 = (.long i2) := Option.some.inj ei2
  obtain ⟨i3, ei3⟩ := isL_v ga3
  obtain rfl : w3 = (.long i3) := Option.some.inj ei3
  obtain ⟨i4, ei4⟩ := is_v ga4
  obtain rfl : w4 = (.int i4) := Option.some.inj ei4
  obtain ⟨hsets, hown0⟩ := atoms_of _ (rest_1_c_eq ▸ (show rest_1_c.before _ s = true from hrest))
  have SA : Sta s s.heap "java/util/BitSet" "$assertionsDisabled" "Z" (.int (1 : Int32)) := own_steq (Cond.before_iff.mp (hsets _ (List.mem_of_getElem? (i := 2) rfl))) (hsets _ (List.mem_of_getElem? (i := 1) rfl))
  obtain ⟨n, o, h1, h2, h3, _, L, rfl, ⟨rfl, N⟩, hq⟩ := rm_law l s _ hw tables_1 i0 i1 i2 i3 i4 s.heap s.heap.size (Nat.le_refl _) SA (OView.nil _ _ _) (Old.start s) p e ha hc hk s m _ below hf ((Spec.applies_iff_loose hf).mp happ).1 ⟨rfl, State.Warmed39.refl s, rfl⟩ trivial
  refine ⟨n, _, h1, h2, h3, hpost _ _ _ _ _ _ ⟨Cond.after_iff.mpr rfl, Cond.after_iff.mpr (eq_i res_at (Term.int_eval (1)) rfl), trivial⟩ ⟨hq.1, hq.2.1, (hq.2.2.sift fun y hy => Or.inr (N y hy)).mono (by decide) (by decide)⟩⟩
theorem main_1_1 : Claimed_1_1 := comes_1 fun _ _ _ _ _ _ h hF => ⟨h.1, hF⟩
theorem main_1_2 : Claimed_1_2 := comes_1 fun _ _ _ _ _ _ h hF => ⟨h.2.1, hF⟩
end Jvm.Pilot.@@N@@
namespace Jvm.Pilot.@@N@@
open Jvm Jvm.ClassFile Sem Op Lib Jvm.Free Jvm.Stand Jvm.Pilot.@@N@@.Jvm.D
/-! MADE BY PROGRAM (witnessworld.py) out of the Statement's table words and the real class files: 15 classes; the members and pool entries that the words name. The judged class is class 1, her method 2. -/
namespace start1
open Jvm.ClassFile
def u (s : String) : CpInfo := .utf8 (stringToUtf16 s)
/-- a pool by its gaps: so many unusable entries, then the entry; so many at the end -/
def gap : Nat → List CpInfo → List CpInfo
  | 0, r => r
  | n + 1, r => .unusable :: gap n r
def poolList (es : List (Nat × CpInfo)) (last : Nat) : List CpInfo := es.foldr (fun e r => gap e.1 (e.2 :: r)) (gap last [])
def pool (es : List (Nat × CpInfo)) (last : Nat) : Array CpInfo := ⟨poolList es last⟩
def fileOf (pool : Array CpInfo) (this : Nat) (attrs : Array Attribute := #[]) (ms : Array MethodInfo := #[]) (fl : Nat := 33) (sup : Nat := 0) (ifs : Array Nat := #[]) (fds : Array FieldInfo := #[]) : ClassFile where
  minorVersion := 0
  majorVersion := 65
  constantPool := pool
  accessFlags := fl
  thisClass := this
  superClass := sup
  interfaces := ifs
  fields := fds
  methods := ms
  attributes := attrs
def plain (name : String) (sup : Option ClassId) : Class where
  name := name
  kind := .ordinary
  loader := none
  accessFlags := 33
  super := sup
  interfaces := #[]
  cf := none
  fields := #[]
  methods := #[]
  instanceTypes := #[]
  staticTypes := #[]
  resolved := #[]
  callSites := []
  init := .initialized
  statics := none
  mirror := none

def pool0 : Array CpInfo := pool [(5, u "<init>"), (0, u "()V"), (1, .class_ 10), (1, u "java/lang/Object"), (85, u "clone"), (0, u "()Ljava/lang/Object;")] 26

def k0c0 : Code := { maxStack := 0, maxLocals := 1, code := object_method_1_code, exceptionTable := #[], attributes := #[] }
def k0m0 : Method := { name := "<init>", desc := "()V", sig := { parameters := [], returnType := none }, accessFlags := 1, code := some k0c0 }
def k0m1 : Method := { name := "clone", desc := "()Ljava/lang/Object;", sig := { parameters := [], returnType := some (.object "java/lang/Object") }, accessFlags := 260, code := none }
/-- java/lang/Object -/
def k0 : Class := { plain "java/lang/Object" none with
  accessFlags := 33
  interfaces := #[]
  cf := some (fileOf pool0 8 #[] #[{ accessFlags := 1, nameIndex := 5, descriptorIndex := 6, attributes := #[] }, { accessFlags := 260, nameIndex := 96, descriptorIndex := 97, attributes := #[] }] 33 0 #[] #[])
  fields := #[]
  methods := #[k0m0, k0m1]
  instanceTypes := #[]
  staticTypes := #[]
  resolved := Array.replicate 124 none
  statics := none }

def pool1 : Array CpInfo := pool [(2, .class_ 4), (1, u "java/lang/Object"), (0, u "<init>"), (0, u "()V"), (0, .class_ 8), (0, u "com/example/inya/inya/SearchPath"), (0, .methodref 7 10), (0, .nameAndType 5 11), (0, u "(I)V"), (0, .methodref 7 13), (0, .nameAndType 14 11), (0, u "add"), (0, .methodref 7 16), (0, .nameAndType 17 18), (0, u "gather"), (0, u "(I[JI)V"), (0, .methodref 7 20), (0, .nameAndType 21 22), (0, u "gathered"), (0, u "(I)Ljava/util/BitSet;"), (0, .methodref 24 25), (0, .class_ 26), (0, .nameAndType 27 28), (0, u "java/util/BitSet"), (0, u "toLongArray"), (0, u "()[J"), (0, .methodref 30 31), (0, .class_ 32), (0, .nameAndType 33 34), (0, u "com/example/inya/inya/SearchPathGatherPinLaw"), (0, u "matches"), (0, u "([JJJ)Z"), (3, u "law"), (0, u "(JJJJI)Z")] 4

def k1m0 : Method := { name := "<init>", desc := "()V", sig := { parameters := [], returnType := none }, accessFlags := 1, code := none }
def k1c1 : Code := { maxStack := 4, maxLocals := 5, code := method_2_code, exceptionTable := #[], attributes := #[] }
def k1m1 : Method := { name := "matches", desc := "([JJJ)Z", sig := { parameters := [(.array .long), .long, .long], returnType := some .boolean }, accessFlags := 10, code := some k1c1 }
def k1c2 : Code := { maxStack := 5, maxLocals := 20, code := code, exceptionTable := #[], attributes := #[] }
def k1m2 : Method := { name := "law", desc := "(JJJJI)Z", sig := { parameters := [.long, .long, .long, .long, .int], returnType := some .boolean }, accessFlags := 9, code := some k1c2 }
/-- com/example/inya/inya/SearchPathGatherPinLaw -/
def k1 : Class := { plain "com/example/inya/inya/SearchPathGatherPinLaw" (some 0) with
  accessFlags := 49
  interfaces := #[]
  cf := some (fileOf pool1 30 #[] #[{ accessFlags := 1, nameIndex := 5, descriptorIndex := 6, attributes := #[] }, { accessFlags := 10, nameIndex := 33, descriptorIndex := 34, attributes := #[] }, { accessFlags := 9, nameIndex := 38, descriptorIndex := 39, attributes := #[] }] 49 2 #[] #[])
  fields := #[]
  methods := #[k1m0, k1m1, k1m2]
  instanceTypes := #[]
  staticTypes := #[]
  resolved := Array.replicate 44 none
  statics := none }

def pool2 : Array CpInfo := pool [(1, .methodref 2 3), (0, .class_ 4), (0, .nameAndType 5 6), (0, u "java/lang/Object"), (0, u "<init>"), (0, u "()V"), (0, .fieldref 8 9), (0, .class_ 10), (0, .nameAndType 11 12), (0, u "com/example/inya/inya/SearchPath"), (0, u "pairs"), (0, u "[I"), (0, .fieldref 8 14), (0, .nameAndType 15 12), (0, u "steps"), (0, .class_ 12), (0, .fieldref 8 18), (0, .nameAndType 19 20), (0, u "stepEdges"), (0, u "[[I"), (0, .fieldref 8 22), (0, .nameAndType 23 12), (0, u "nextEdges"), (0, .fieldref 8 25), (0, .nameAndType 26 12), (0, u "taken"), (0, .fieldref 8 28), (0, .nameAndType 29 30), (0, u "words"), (0, u "I"), (0, .fieldref 8 32), (0, .nameAndType 33 34), (0, u "gathered"), (0, u "[J"), (0, .fieldref 8 36), (0, .nameAndType 37 34), (0, u "cameBy"), (0, .fieldref 8 39), (0, .nameAndType 40 30), (0, u "size"), (1, .class_ 44), (1, u "java/util/Arrays"), (0, u "copyOf"), (5, .methodref 42 52), (0, .nameAndType 45 53), (0, u "([JI)[J"), (0, .methodref 42 55), (0, .nameAndType 56 57), (0, u "fill"), (0, u "([JIIJ)V"), (8, u "gather"), (0, u "(I[JI)V"), (0, .methodref 42 69), (0, .nameAndType 70 71), (0, u "copyOfRange"), (0, u "([JII)[J"), (0, .methodref 73 74), (0, .class_ 75), (0, .nameAndType 76 77), (0, u "java/util/BitSet"), (0, u "valueOf"), (0, u "([J)Ljava/util/BitSet;"), (0, u "(I)V"), (5, u "add"), (11, u "(I)Ljava/util/BitSet;")] 2

def k2c0 : Code := { maxStack := 3, maxLocals := 2, code := prog_71_method_1_code, exceptionTable := #[], attributes := #[] }
def k2m0 : Method := { name := "<init>", desc := "(I)V", sig := { parameters := [.int], returnType := none }, accessFlags := 0, code := some k2c0 }
def k2c1 : Code := { maxStack := 5, maxLocals := 2, code := prog_71_method_4_code, exceptionTable := #[], attributes := #[] }
def k2m1 : Method := { name := "add", desc := "(I)V", sig := { parameters := [.int], returnType := none }, accessFlags := 0, code := some k2c1 }
def k2c2 : Code := { maxStack := 7, maxLocals := 5, code := prog_71_method_13_code, exceptionTable := #[], attributes := #[] }
def k2m2 : Method := { name := "gather", desc := "(I[JI)V", sig := { parameters := [.int, (.array .long), .int], returnType := none }, accessFlags := 0, code := some k2c2 }
def k2c3 : Code := { maxStack := 4, maxLocals := 2, code := prog_71_method_15_code, exceptionTable := #[], attributes := #[] }
def k2m3 : Method := { name := "gathered", desc := "(I)Ljava/util/BitSet;", sig := { parameters := [.int], returnType := some (.object "java/util/BitSet") }, accessFlags := 0, code := some k2c3 }
/-- com/example/inya/inya/SearchPath -/
def k2 : Class := { plain "com/example/inya/inya/SearchPath" (some 0) with
  accessFlags := 32
  interfaces := #[]
  cf := some (fileOf pool2 8 #[] #[{ accessFlags := 0, nameIndex := 5, descriptorIndex := 78, attributes := #[] }, { accessFlags := 0, nameIndex := 84, descriptorIndex := 78, attributes := #[] }, { accessFlags := 0, nameIndex := 66, descriptorIndex := 67, attributes := #[] }, { accessFlags := 0, nameIndex := 33, descriptorIndex := 96, attributes := #[] }] 32 2 #[] #[{ accessFlags := 18, nameIndex := 29, descriptorIndex := 30, attributes := #[] }, { accessFlags := 2, nameIndex := 40, descriptorIndex := 30, attributes := #[] }, { accessFlags := 2, nameIndex := 11, descriptorIndex := 12, attributes := #[] }, { accessFlags := 2, nameIndex := 15, descriptorIndex := 12, attributes := #[] }, { accessFlags := 2, nameIndex := 19, descriptorIndex := 20, attributes := #[] }, { accessFlags := 2, nameIndex := 23, descriptorIndex := 12, attributes := #[] }, { accessFlags := 2, nameIndex := 26, descriptorIndex := 12, attributes := #[] }, { accessFlags := 2, nameIndex := 33, descriptorIndex := 34, attributes := #[] }, { accessFlags := 2, nameIndex := 37, descriptorIndex := 34, attributes := #[] }])
  fields := #[{ name := "words", type := .int, accessFlags := 18, slot := 0, constantValue := 0 }, { name := "size", type := .int, accessFlags := 2, slot := 1, constantValue := 0 }, { name := "pairs", type := (.array .int), accessFlags := 2, slot := 2, constantValue := 0 }, { name := "steps", type := (.array .int), accessFlags := 2, slot := 3, constantValue := 0 }, { name := "stepEdges", type := (.array (.array .int)), accessFlags := 2, slot := 4, constantValue := 0 }, { name := "nextEdges", type := (.array .int), accessFlags := 2, slot := 5, constantValue := 0 }, { name := "taken", type := (.array .int), accessFlags := 2, slot := 6, constantValue := 0 }, { name := "gathered", type := (.array .long), accessFlags := 2, slot := 7, constantValue := 0 }, { name := "cameBy", type := (.array .long), accessFlags := 2, slot := 8, constantValue := 0 }]
  methods := #[k2m0, k2m1, k2m2, k2m3]
  instanceTypes := #[.int, .int, (.array .int), (.array .int), (.array (.array .int)), (.array .int), (.array .int), (.array .long), (.array .long)]
  staticTypes := #[]
  resolved := Array.replicate 99 none
  statics := none }

def pool3 : Array CpInfo := pool [(2, .class_ 4), (1, u "java/lang/Object"), (0, u "<init>"), (0, u "()V"), (6, .methodref 14 15), (0, .class_ 16), (0, .nameAndType 17 18), (0, u "java/util/Arrays"), (0, u "rangeCheck"), (0, u "(III)V"), (55, .class_ 76), (1, u "java/util/Arrays$NaturalOrder"), (32, u "()Ljava/lang/Object;"), (3, .class_ 115), (1, u "java/util/Arrays$LegacyMergeSort"), (1, u "Z"), (10, .nameAndType 129 109), (0, u "clone"), (9, u "copyOfRange"), (10, .methodref 151 152), (0, .class_ 153), (0, .nameAndType 154 155), (0, u "java/lang/System"), (0, u "arraycopy"), (0, u "(Ljava/lang/Object;ILjava/lang/Object;II)V"), (146, u "copyOf"), (1, .methodref 305 306), (0, .class_ 307), (0, .nameAndType 308 309), (0, u "java/lang/Math"), (0, u "min"), (0, u "(II)I"), (9, .methodref 320 128), (0, .class_ 321), (0, u "[J"), (21, .methodref 14 344), (0, .nameAndType 345 346), (0, u "checkLength"), (0, u "(II)V"), (8, .methodref 14 356), (0, .nameAndType 357 358), (0, u "copyOfRangeLong"), (0, u "([JII)[J"), (16, .class_ 376), (0, u "java/util/Arrays$ArrayList"), (68, u "$assertionsDisabled"), (269, u "MIN_ARRAY_SORT_GRAN"), (0, u "I"), (2, u "INSERTIONSORT_THRESHOLD"), (120, u "fill"), (3, u "([JIIJ)V"), (27, u "([JI)[J"), (102, .class_ 976), (0, u "java/util/Arrays$ArrayItr")] 52

def k3m0 : Method := { name := "<init>", desc := "()V", sig := { parameters := [], returnType := none }, accessFlags := 2, code := none }
def k3c1 : Code := { maxStack := 4, maxLocals := 3, code := jdk_65_method_30_code, exceptionTable := #[], attributes := #[] }
def k3m1 : Method := { name := "rangeCheck", desc := "(III)V", sig := { parameters := [.int, .int, .int], returnType := none }, accessFlags := 8, code := some k3c1 }
def k3c2 : Code := { maxStack := 4, maxLocals := 6, code := jdk_65_method_102_code, exceptionTable := #[], attributes := #[] }
def k3m2 : Method := { name := "fill", desc := "([JIIJ)V", sig := { parameters := [(.array .long), .int, .int, .long], returnType := none }, accessFlags := 9, code := some k3c2 }
def k3c3 : Code := { maxStack := 6, maxLocals := 3, code := jdk_65_method_124_code, exceptionTable := #[], attributes := #[] }
def k3m3 : Method := { name := "copyOf", desc := "([JI)[J", sig := { parameters := [(.array .long), .int], returnType := some (.array .long) }, accessFlags := 9, code := some k3c3 }
def k3c4 : Code := { maxStack := 4, maxLocals := 2, code := jdk_65_method_131_code, exceptionTable := #[], attributes := #[] }
def k3m4 : Method := { name := "checkLength", desc := "(II)V", sig := { parameters := [.int, .int], returnType := none }, accessFlags := 10, code := some k3c4 }
def k3c5 : Code := { maxStack := 3, maxLocals := 3, code := jdk_65_method_138_code, exceptionTable := #[], attributes := #[] }
def k3m5 : Method := { name := "copyOfRange", desc := "([JII)[J", sig := { parameters := [(.array .long), .int, .int], returnType := some (.array .long) }, accessFlags := 9, code := some k3c5 }
def k3c6 : Code := { maxStack := 6, maxLocals := 5, code := jdk_65_method_139_code, exceptionTable := #[], attributes := #[] }
def k3m6 : Method := { name := "copyOfRangeLong", desc := "([JII)[J", sig := { parameters := [(.array .long), .int, .int], returnType := some (.array .long) }, accessFlags := 10, code := some k3c6 }
/-- java/util/Arrays -/
def k3 : Class := { plain "java/util/Arrays" (some 0) with
  accessFlags := 49
  interfaces := #[]
  cf := some (fileOf pool3 14 #[.nestMembers #[975, 375, 113, 74]] #[{ accessFlags := 2, nameIndex := 5, descriptorIndex := 6, attributes := #[] }, { accessFlags := 8, nameIndex := 17, descriptorIndex := 18, attributes := #[] }, { accessFlags := 9, nameIndex := 840, descriptorIndex := 844, attributes := #[] }, { accessFlags := 9, nameIndex := 302, descriptorIndex := 872, attributes := #[] }, { accessFlags := 10, nameIndex := 345, descriptorIndex := 346, attributes := #[] }, { accessFlags := 9, nameIndex := 139, descriptorIndex := 358, attributes := #[] }, { accessFlags := 10, nameIndex := 357, descriptorIndex := 358, attributes := #[] }] 49 2 #[] #[{ accessFlags := 26, nameIndex := 715, descriptorIndex := 716, attributes := #[] }, { accessFlags := 26, nameIndex := 719, descriptorIndex := 716, attributes := #[] }, { accessFlags := 4120, nameIndex := 445, descriptorIndex := 117, attributes := #[] }])
  fields := #[{ name := "MIN_ARRAY_SORT_GRAN", type := .int, accessFlags := 26, slot := 0, constantValue := 0 }, { name := "INSERTIONSORT_THRESHOLD", type := .int, accessFlags := 26, slot := 1, constantValue := 0 }, { name := "$assertionsDisabled", type := .boolean, accessFlags := 4120, slot := 2, constantValue := 0 }]
  methods := #[k3m0, k3m1, k3m2, k3m3, k3m4, k3m5, k3m6]
  instanceTypes := #[]
  staticTypes := #[.int, .int, .boolean]
  resolved := Array.replicate 1029 none
  statics := none }

def pool4 : Array CpInfo := pool [(1, .class_ 2), (0, u "java/lang/Math"), (1, .class_ 6), (1, u "java/lang/Object"), (0, u "<init>"), (0, u "()V"), (89, .class_ 100), (1, u "java/lang/Math$RandomNumberGeneratorHolder"), (71, u "negativeZeroFloatBits"), (0, u "J"), (2, u "negativeZeroDoubleBits"), (24, u "min"), (43, u "$assertionsDisabled"), (0, u "Z"), (88, u "(II)I"), (2, u "twoToTheDoubleScaleDown"), (0, u "D"), (4, u "twoToTheDoubleScaleUp"), (9, u "E"), (3, u "PI"), (2, u "TAU"), (2, u "DEGREES_TO_RADIANS"), (0, u "RADIANS_TO_DEGREES")] 94

def k4m0 : Method := { name := "<init>", desc := "()V", sig := { parameters := [], returnType := none }, accessFlags := 2, code := none }
def k4c1 : Code := { maxStack := 2, maxLocals := 2, code := jdk_29_method_69_code, exceptionTable := #[], attributes := #[] }
def k4m1 : Method := { name := "min", desc := "(II)I", sig := { parameters := [.int, .int], returnType := some .int }, accessFlags := 9, code := some k4c1 }
/-- java/lang/Math -/
def k4 : Class := { plain "java/lang/Math" (some 0) with
  accessFlags := 49
  interfaces := #[]
  cf := some (fileOf pool4 1 #[.nestMembers #[98]] #[{ accessFlags := 2, nameIndex := 7, descriptorIndex := 8, attributes := #[] }, { accessFlags := 9, nameIndex := 201, descriptorIndex := 335, attributes := #[] }] 49 4 #[] #[{ accessFlags := 25, nameIndex := 354, descriptorIndex := 339, attributes := #[] }, { accessFlags := 25, nameIndex := 358, descriptorIndex := 339, attributes := #[] }, { accessFlags := 25, nameIndex := 361, descriptorIndex := 339, attributes := #[] }, { accessFlags := 26, nameIndex := 364, descriptorIndex := 339, attributes := #[] }, { accessFlags := 26, nameIndex := 365, descriptorIndex := 339, attributes := #[] }, { accessFlags := 26, nameIndex := 172, descriptorIndex := 173, attributes := #[] }, { accessFlags := 26, nameIndex := 176, descriptorIndex := 173, attributes := #[] }, { accessFlags := 8, nameIndex := 344, descriptorIndex := 339, attributes := #[] }, { accessFlags := 8, nameIndex := 338, descriptorIndex := 339, attributes := #[] }, { accessFlags := 4120, nameIndex := 245, descriptorIndex := 246, attributes := #[] }])
  fields := #[{ name := "E", type := .double, accessFlags := 25, slot := 0, constantValue := 0 }, { name := "PI", type := .double, accessFlags := 25, slot := 1, constantValue := 0 }, { name := "TAU", type := .double, accessFlags := 25, slot := 2, constantValue := 0 }, { name := "DEGREES_TO_RADIANS", type := .double, accessFlags := 26, slot := 3, constantValue := 0 }, { name := "RADIANS_TO_DEGREES", type := .double, accessFlags := 26, slot := 4, constantValue := 0 }, { name := "negativeZeroFloatBits", type := .long, accessFlags := 26, slot := 5, constantValue := 0 }, { name := "negativeZeroDoubleBits", type := .long, accessFlags := 26, slot := 6, constantValue := 0 }, { name := "twoToTheDoubleScaleUp", type := .double, accessFlags := 8, slot := 7, constantValue := 0 }, { name := "twoToTheDoubleScaleDown", type := .double, accessFlags := 8, slot := 8, constantValue := 0 }, { name := "$assertionsDisabled", type := .boolean, accessFlags := 4120, slot := 9, constantValue := 0 }]
  methods := #[k4m0, k4m1]
  instanceTypes := #[]
  staticTypes := #[.double, .double, .double, .double, .double, .long, .long, .double, .double, .boolean]
  resolved := Array.replicate 460 none
  statics := none }

def pool5 : Array CpInfo := pool [(2, .class_ 4), (1, u "java/lang/Object"), (0, u "<init>"), (0, u "()V"), (1, .class_ 10), (1, u "java/lang/System"), (0, u "allowSecurityManager"), (0, u "I"), (16, u "cons"), (0, u "Ljava/io/Console;"), (77, .class_ 110), (1, u "java/lang/System$CallersHolder"), (43, u "initialErrStream"), (0, u "Ljava/io/PrintStream;"), (19, u "security"), (0, u "Ljava/lang/SecurityManager;"), (31, .class_ 209), (0, u "java/lang/System$1"), (7, u "props"), (0, u "Ljava/util/Properties;"), (2, u "lineSeparator"), (0, u "Ljava/lang/String;"), (96, .class_ 321), (1, u "java/lang/System$LoggerFinder"), (5, .class_ 328), (0, u "java/lang/System$Logger"), (67, u "err"), (2, u "out"), (91, u "notSupportedJnuEncoding"), (15, u "in"), (17, u "initialIn"), (0, u "Ljava/io/InputStream;"), (35, u "bootLayer"), (0, u "Ljava/lang/ModuleLayer;"), (99, .class_ 664), (0, u "java/lang/System$2"), (9, u "NEVER"), (2, u "MAYBE"), (49, u "arraycopy"), (0, u "(Ljava/lang/Object;ILjava/lang/Object;II)V"), (72, .class_ 802), (0, u "java/lang/System$Logger$Level")] 31

def k5m0 : Method := { name := "<init>", desc := "()V", sig := { parameters := [], returnType := none }, accessFlags := 2, code := none }
def k5m1 : Method := { name := "arraycopy", desc := "(Ljava/lang/Object;ILjava/lang/Object;II)V", sig := { parameters := [(.object "java/lang/Object"), .int, (.object "java/lang/Object"), .int, .int], returnType := none }, accessFlags := 265, code := none }
/-- java/lang/System -/
def k5 : Class := { plain "java/lang/System" (some 0) with
  accessFlags := 49
  interfaces := #[]
  cf := some (fileOf pool5 8 #[.nestMembers #[319, 327, 801, 108, 663, 208]] #[{ accessFlags := 2, nameIndex := 5, descriptorIndex := 6, attributes := #[] }, { accessFlags := 265, nameIndex := 727, descriptorIndex := 728, attributes := #[] }] 49 2 #[] #[{ accessFlags := 25, nameIndex := 507, descriptorIndex := 526, attributes := #[] }, { accessFlags := 25, nameIndex := 399, descriptorIndex := 155, attributes := #[] }, { accessFlags := 25, nameIndex := 396, descriptorIndex := 155, attributes := #[] }, { accessFlags := 10, nameIndex := 525, descriptorIndex := 526, attributes := #[] }, { accessFlags := 26, nameIndex := 674, descriptorIndex := 12, attributes := #[] }, { accessFlags := 26, nameIndex := 677, descriptorIndex := 12, attributes := #[] }, { accessFlags := 10, nameIndex := 11, descriptorIndex := 12, attributes := #[] }, { accessFlags := 74, nameIndex := 175, descriptorIndex := 176, attributes := #[] }, { accessFlags := 10, nameIndex := 491, descriptorIndex := 222, attributes := #[] }, { accessFlags := 74, nameIndex := 29, descriptorIndex := 30, attributes := #[] }, { accessFlags := 74, nameIndex := 154, descriptorIndex := 155, attributes := #[] }, { accessFlags := 10, nameIndex := 217, descriptorIndex := 218, attributes := #[] }, { accessFlags := 10, nameIndex := 221, descriptorIndex := 222, attributes := #[] }, { accessFlags := 8, nameIndex := 562, descriptorIndex := 563, attributes := #[] }])
  fields := #[{ name := "in", type := (.object "java/io/InputStream"), accessFlags := 25, slot := 0, constantValue := 0 }, { name := "out", type := (.object "java/io/PrintStream"), accessFlags := 25, slot := 1, constantValue := 0 }, { name := "err", type := (.object "java/io/PrintStream"), accessFlags := 25, slot := 2, constantValue := 0 }, { name := "initialIn", type := (.object "java/io/InputStream"), accessFlags := 10, slot := 3, constantValue := 0 }, { name := "NEVER", type := .int, accessFlags := 26, slot := 4, constantValue := 0 }, { name := "MAYBE", type := .int, accessFlags := 26, slot := 5, constantValue := 0 }, { name := "allowSecurityManager", type := .int, accessFlags := 10, slot := 6, constantValue := 0 }, { name := "security", type := (.object "java/lang/SecurityManager"), accessFlags := 74, slot := 7, constantValue := 0 }, { name := "notSupportedJnuEncoding", type := (.object "java/lang/String"), accessFlags := 10, slot := 8, constantValue := 0 }, { name := "cons", type := (.object "java/io/Console"), accessFlags := 74, slot := 9, constantValue := 0 }, { name := "initialErrStream", type := (.object "java/io/PrintStream"), accessFlags := 74, slot := 10, constantValue := 0 }, { name := "props", type := (.object "java/util/Properties"), accessFlags := 10, slot := 11, constantValue := 0 }, { name := "lineSeparator", type := (.object "java/lang/String"), accessFlags := 10, slot := 12, constantValue := 0 }, { name := "bootLayer", type := (.object "java/lang/ModuleLayer"), accessFlags := 8, slot := 13, constantValue := 0 }]
  methods := #[k5m0, k5m1]
  instanceTypes := #[]
  staticTypes := #[(.object "java/io/InputStream"), (.object "java/io/PrintStream"), (.object "java/io/PrintStream"), (.object "java/io/InputStream"), .int, .int, .int, (.object "java/lang/SecurityManager"), (.object "java/lang/String"), (.object "java/io/Console"), (.object "java/io/PrintStream"), (.object "java/util/Properties"), (.object "java/lang/String"), (.object "java/lang/ModuleLayer")]
  resolved := Array.replicate 834 none
  statics := none }

def pool6 : Array CpInfo := pool [(1, .class_ 2), (0, u "java/lang/Cloneable"), (0, .class_ 4), (0, u "java/lang/Object")] 2

/-- java/lang/Cloneable -/
def k6 : Class := { plain "java/lang/Cloneable" (some 0) with
  accessFlags := 1537
  interfaces := #[]
  cf := some (fileOf pool6 1 #[] #[] 1537 3 #[] #[])
  fields := #[]
  methods := #[]
  instanceTypes := #[]
  staticTypes := #[]
  resolved := Array.replicate 7 none
  statics := none }

def pool7 : Array CpInfo := pool [(1, .class_ 2), (0, u "java/io/Serializable"), (0, .class_ 4), (0, u "java/lang/Object")] 2

/-- java/io/Serializable -/
def k7 : Class := { plain "java/io/Serializable" (some 0) with
  accessFlags := 1537
  interfaces := #[]
  cf := some (fileOf pool7 1 #[] #[] 1537 3 #[] #[])
  fields := #[]
  methods := #[]
  instanceTypes := #[]
  staticTypes := #[]
  resolved := Array.replicate 7 none
  statics := none }

def pool8 : Array CpInfo := pool [(1, .class_ 2), (0, u "java/util/BitSet"), (0, .fieldref 1 4), (0, .nameAndType 5 6), (0, u "$assertionsDisabled"), (0, u "Z"), (0, .fieldref 1 8), (0, .nameAndType 9 10), (0, u "wordsInUse"), (0, u "I"), (0, .fieldref 1 12), (0, .nameAndType 13 14), (0, u "words"), (0, u "[J"), (3, .nameAndType 19 20), (0, u "<init>"), (0, u "()V"), (0, .methodref 22 18), (0, .class_ 23), (0, u "java/lang/Object"), (0, .fieldref 1 25), (0, .nameAndType 26 6), (0, u "sizeIsSticky"), (29, .methodref 1 57), (0, .nameAndType 58 20), (0, u "checkInvariants"), (0, .methodref 60 61), (0, .class_ 62), (0, .nameAndType 63 64), (0, u "java/util/Arrays"), (0, u "copyOf"), (0, u "([JI)[J"), (0, .methodref 1 66), (0, .nameAndType 19 67), (0, u "([J)V"), (25, u "valueOf"), (175, .class_ 270), (0, u "java/util/BitSet$1BitSetSpliterator"), (22, u "serialPersistentFields"), (0, u "[Ljava/io/ObjectStreamField;"), (0, .class_ 296), (0, u "java/lang/Cloneable"), (0, .class_ 298), (0, u "java/io/Serializable"), (0, u "ADDRESS_BITS_PER_WORD"), (2, u "BITS_PER_WORD"), (1, u "BIT_INDEX_MASK"), (1, u "WORD_MASK"), (0, u "J"), (0, u "serialVersionUID"), (11, u "([J)Ljava/util/BitSet;"), (16, u "toLongArray"), (0, u "()[J")] 78

def k8c0 : Code := { maxStack := 4, maxLocals := 1, code := jdk_92_method_2_code, exceptionTable := #[], attributes := #[] }
def k8m0 : Method := { name := "checkInvariants", desc := "()V", sig := { parameters := [], returnType := none }, accessFlags := 2, code := some k8c0 }
def k8m1 : Method := { name := "<init>", desc := "()V", sig := { parameters := [], returnType := none }, accessFlags := 1, code := none }
def k8c2 : Code := { maxStack := 2, maxLocals := 2, code := jdk_92_method_7_code, exceptionTable := #[], attributes := #[] }
def k8m2 : Method := { name := "<init>", desc := "([J)V", sig := { parameters := [(.array .long)], returnType := none }, accessFlags := 2, code := some k8c2 }
def k8c3 : Code := { maxStack := 4, maxLocals := 2, code := jdk_92_method_8_code, exceptionTable := #[], attributes := #[] }
def k8m3 : Method := { name := "valueOf", desc := "([J)Ljava/util/BitSet;", sig := { parameters := [(.array .long)], returnType := some (.object "java/util/BitSet") }, accessFlags := 9, code := some k8c3 }
def k8c4 : Code := { maxStack := 2, maxLocals := 1, code := jdk_92_method_13_code, exceptionTable := #[], attributes := #[] }
def k8m4 : Method := { name := "toLongArray", desc := "()[J", sig := { parameters := [], returnType := some (.array .long) }, accessFlags := 1, code := some k8c4 }
/-- java/util/BitSet -/
def k8 : Class := { plain "java/util/BitSet" (some 0) with
  accessFlags := 33
  interfaces := #[6, 7]
  cf := some (fileOf pool8 1 #[.nestMembers #[269]] #[{ accessFlags := 2, nameIndex := 58, descriptorIndex := 20, attributes := #[] }, { accessFlags := 1, nameIndex := 19, descriptorIndex := 20, attributes := #[] }, { accessFlags := 2, nameIndex := 19, descriptorIndex := 67, attributes := #[] }, { accessFlags := 9, nameIndex := 93, descriptorIndex := 320, attributes := #[] }, { accessFlags := 1, nameIndex := 337, descriptorIndex := 338, attributes := #[] }] 33 22 #[295, 297] #[{ accessFlags := 26, nameIndex := 299, descriptorIndex := 10, attributes := #[] }, { accessFlags := 26, nameIndex := 302, descriptorIndex := 10, attributes := #[] }, { accessFlags := 26, nameIndex := 304, descriptorIndex := 10, attributes := #[] }, { accessFlags := 26, nameIndex := 306, descriptorIndex := 307, attributes := #[] }, { accessFlags := 26, nameIndex := 293, descriptorIndex := 294, attributes := #[] }, { accessFlags := 2, nameIndex := 13, descriptorIndex := 14, attributes := #[] }, { accessFlags := 130, nameIndex := 9, descriptorIndex := 10, attributes := #[] }, { accessFlags := 130, nameIndex := 26, descriptorIndex := 6, attributes := #[] }, { accessFlags := 26, nameIndex := 308, descriptorIndex := 307, attributes := #[] }, { accessFlags := 4120, nameIndex := 5, descriptorIndex := 6, attributes := #[] }])
  fields := #[{ name := "ADDRESS_BITS_PER_WORD", type := .int, accessFlags := 26, slot := 0, constantValue := 0 }, { name := "BITS_PER_WORD", type := .int, accessFlags := 26, slot := 1, constantValue := 0 }, { name := "BIT_INDEX_MASK", type := .int, accessFlags := 26, slot := 2, constantValue := 0 }, { name := "WORD_MASK", type := .long, accessFlags := 26, slot := 3, constantValue := 0 }, { name := "serialPersistentFields", type := (.array (.object "java/io/ObjectStreamField")), accessFlags := 26, slot := 4, constantValue := 0 }, { name := "words", type := (.array .long), accessFlags := 2, slot := 0, constantValue := 0 }, { name := "wordsInUse", type := .int, accessFlags := 130, slot := 1, constantValue := 0 }, { name := "sizeIsSticky", type := .boolean, accessFlags := 130, slot := 2, constantValue := 0 }, { name := "serialVersionUID", type := .long, accessFlags := 26, slot := 5, constantValue := 0 }, { name := "$assertionsDisabled", type := .boolean, accessFlags := 4120, slot := 6, constantValue := 0 }]
  methods := #[k8m0, k8m1, k8m2, k8m3, k8m4]
  instanceTypes := #[(.array .long), .int, .boolean]
  staticTypes := #[.int, .int, .int, .long, (.array (.object "java/io/ObjectStreamField")), .long, .boolean]
  resolved := Array.replicate 417 none
  statics := some 0 }

/-- the primitive byte -/
def k9 : Class := { plain "byte" none with kind := .primitive 'B', accessFlags := 0x411 }
/-- [B -/
def k10 : Class := { plain "[B" (some 0) with kind := .array 9 .byte, interfaces := #[6, 7], accessFlags := 1041 }

/-- the primitive int -/
def k11 : Class := { plain "int" none with kind := .primitive 'I', accessFlags := 0x411 }
/-- [I -/
def k12 : Class := { plain "[I" (some 0) with kind := .array 11 .int, interfaces := #[6, 7], accessFlags := 1041 }

/-- the primitive long -/
def k13 : Class := { plain "long" none with kind := .primitive 'J', accessFlags := 0x411 }
/-- [J -/
def k14 : Class := { plain "[J" (some 0) with kind := .array 13 .long, interfaces := #[6, 7], accessFlags := 1041 }

/-- [[I -/
def k15 : Class := { plain "[[I" (some 0) with kind := .array 12 (.array .int), interfaces := #[6, 7], accessFlags := 1041 }

def heap : Heap := #[{ cls := 8, slots := #[.int 0, .int 0, .int 0, .long 0, .null, .long 0, .int 1], vm := .statics 8 }]
def classes : Array Class := #[k0, k1, k2, k3, k4, k5, k6, k7, k8, k9, k10, k11, k12, k13, k14, k15]
def interned : List (Array UInt16 × Addr) := []
def slotsUsed : Nat := 7
def theMethod : MethodId := ⟨1, 2⟩
def args0 : Array Value := #[.long 5, .long 7, .long 9, .long 11, .int 3]
def aboutOver (below : List Frame) : State where
  vm := { classes := classes, interned := interned.toArray }
  heap := heap
  slotsUsed := slotsUsed
  threads := #[{ frames := .invoking theMethod args0 :: below }]
def below0 : List Frame := [.native { method := ⟨0, 0⟩, args := #[] }]
def about1 : State := aboutOver below0
def p0 : Program := .bare "" "" ""
def e0 : Env := launch0.env 0 0 0
theorem w_frames : about1.frames = Frame.invoking theMethod args0 :: below0 := rfl
set_option maxRecDepth 65536 in
theorem w_args : argsFit about1.vm theMethod args0 = true := by decide +kernel
set_option maxRecDepth 65536 in
theorem w_heap : heapFits about1 = true := by decide +kernel
set_option maxRecDepth 65536 in
theorem w_runnable : about1.curStatus? = some .runnable := by decide +kernel
set_option maxRecDepth 65536 in
theorem w_alone : about1.alone = true := by decide +kernel
set_option maxRecDepth 65536 in
theorem w_named : about1.methodNamed? x = some theMethod := by decide +kernel
set_option maxRecDepth 65536 in
theorem w_hears : about1.hears theMethod below0 = true := by decide +kernel
set_option maxRecDepth 65536 in
theorem w_ripe : about1.ripe theMethod args0 below0 = true := by decide +kernel
theorem w_running : about1.status = .running := rfl
set_option maxRecDepth 65536 in
theorem w_room : about1.hasRoom e0.platform room_1 = true :=
  launch0.hasRoom_least _ room_1 (by decide +kernel) (by decide +kernel) (by decide +kernel) (by decide +kernel) (by decide +kernel) (by decide +kernel)
theorem allAtoms_all (ts : List Jvm.Cond) (a : Array Jvm.Value) (st : Jvm.State) : (allAtoms ts).before a st = ts.all (fun c => c.before a st) := by
  induction ts with
  | nil => rfl
  | cons c t ih =>
    show (Jvm.Cond.and c (allAtoms t)).before a st = _
    rw [Jvm.Cond.before_and, ih, List.all_cons]
def words1 : List Jvm.Cond := Jvm.Cond.code x code maxLocals ret :: tables_1
/-- a 'code' word, met by the world's own term for the bytes: nothing is compared byte by byte -/
theorem code_word {y : MethodName} {bytes : ByteArray} {mx : Nat} {rt : Option FieldType} {a : Array Value} {s : State} {m : MethodId} {meth : Method} {c : Code} (h1 : s.methodNamed? y = some m) (h2 : s.vm.method? m = some meth) (h3 : meth.code = some c) (h4 : c.code = bytes)
    (h5 : (c.maxLocals == mx && c.exceptionTable.isEmpty && decide (c.maxStack ≤ mostOperands) && decide (meth.sig.returnType = rt) && !meth.locks && decide (parseMethodDescriptor y.desc = some meth.sig)) = true) : (Jvm.Cond.code y bytes mx rt).before a s = true := by
  simp only [Bool.and_eq_true, beq_iff_eq, Bool.not_eq_true', decide_eq_true_eq] at h5
  obtain ⟨⟨⟨⟨⟨g1, g2⟩, g3⟩, g4⟩, g5⟩, g6⟩ := h5
  simp [Cond.before, Cond.holds, Cond.value, h1, h2, h3, h4, g1, g2, g3, g4, g5, g6]
def isCode : Jvm.Cond → Bool
  | .code _ _ _ _ => true
  | _ => false
theorem all_split {L : List Jvm.Cond} {P : Jvm.Cond → Bool} (h1 : L.all (fun c => isCode c || P c) = true) (h2 : ∀ c ∈ L.filter isCode, P c = true) : L.all P = true := by
  refine List.all_eq_true.mpr fun c hc => ?_
  have h := List.all_eq_true.mp h1 c hc
  rcases Bool.eq_false_or_eq_true (isCode c) with hi | hi
  · exact h2 c (List.mem_filter.mpr ⟨hc, hi⟩)
  · simpa [hi] using h
set_option maxRecDepth 65536 in
theorem w_c0 : (Jvm.Cond.code x code maxLocals ret).before args0 about1 = true := code_word (m := ⟨1, 2⟩) (meth := k1m2) (c := k1c2) (by decide +kernel) rfl rfl rfl (by decide +kernel)
set_option maxRecDepth 65536 in
theorem w_c1 : (Jvm.Cond.code ({ cls := "com/example/inya/inya/SearchPath", name := "<init>", desc := "(I)V" } : Jvm.MethodName) prog_71_method_1_code (2 : Nat) (Option.none : Option Jvm.ClassFile.FieldType)).before args0 about1 = true := code_word (m := ⟨2, 0⟩) (meth := k2m0) (c := k2c0) (by decide +kernel) rfl rfl rfl (by decide +kernel)
set_option maxRecDepth 65536 in
theorem w_c2 : (Jvm.Cond.code ({ cls := "java/lang/Object", name := "<init>", desc := "()V" } : Jvm.MethodName) object_method_1_code (1 : Nat) (Option.none : Option Jvm.ClassFile.FieldType)).before args0 about1 = true := code_word (m := ⟨0, 0⟩) (meth := k0m0) (c := k0c0) (by decide +kernel) rfl rfl rfl (by decide +kernel)
set_option maxRecDepth 65536 in
theorem w_c3 : (Jvm.Cond.code ({ cls := "com/example/inya/inya/SearchPath", name := "add", desc := "(I)V" } : Jvm.MethodName) prog_71_method_4_code (2 : Nat) (Option.none : Option Jvm.ClassFile.FieldType)).before args0 about1 = true := code_word (m := ⟨2, 1⟩) (meth := k2m1) (c := k2c1) (by decide +kernel) rfl rfl rfl (by decide +kernel)
set_option maxRecDepth 65536 in
theorem w_c4 : (Jvm.Cond.code ({ cls := "java/util/Arrays", name := "fill", desc := "([JIIJ)V" } : Jvm.MethodName) jdk_65_method_102_code (6 : Nat) (Option.none : Option Jvm.ClassFile.FieldType)).before args0 about1 = true := code_word (m := ⟨3, 2⟩) (meth := k3m2) (c := k3c2) (by decide +kernel) rfl rfl rfl (by decide +kernel)
set_option maxRecDepth 65536 in
theorem w_c5 : (Jvm.Cond.code ({ cls := "java/util/Arrays", name := "rangeCheck", desc := "(III)V" } : Jvm.MethodName) jdk_65_method_30_code (3 : Nat) (Option.none : Option Jvm.ClassFile.FieldType)).before args0 about1 = true := code_word (m := ⟨3, 1⟩) (meth := k3m1) (c := k3c1) (by decide +kernel) rfl rfl rfl (by decide +kernel)
set_option maxRecDepth 65536 in
theorem w_c6 : (Jvm.Cond.code ({ cls := "com/example/inya/inya/SearchPath", name := "gather", desc := "(I[JI)V" } : Jvm.MethodName) prog_71_method_13_code (5 : Nat) (Option.none : Option Jvm.ClassFile.FieldType)).before args0 about1 = true := code_word (m := ⟨2, 2⟩) (meth := k2m2) (c := k2c2) (by decide +kernel) rfl rfl rfl (by decide +kernel)
set_option maxRecDepth 65536 in
theorem w_c7 : (Jvm.Cond.code ({ cls := "com/example/inya/inya/SearchPath", name := "gathered", desc := "(I)Ljava/util/BitSet;" } : Jvm.MethodName) prog_71_method_15_code (2 : Nat) (Option.some (Jvm.ClassFile.FieldType.object "java/util/BitSet"))).before args0 about1 = true := code_word (m := ⟨2, 3⟩) (meth := k2m3) (c := k2c3) (by decide +kernel) rfl rfl rfl (by decide +kernel)
set_option maxRecDepth 65536 in
theorem w_c8 : (Jvm.Cond.code ({ cls := "java/util/Arrays", name := "copyOfRange", desc := "([JII)[J" } : Jvm.MethodName) jdk_65_method_138_code (3 : Nat) (Option.some (Jvm.ClassFile.FieldType.array Jvm.ClassFile.FieldType.long))).before args0 about1 = true := code_word (m := ⟨3, 5⟩) (meth := k3m5) (c := k3c5) (by decide +kernel) rfl rfl rfl (by decide +kernel)
set_option maxRecDepth 65536 in
theorem w_c9 : (Jvm.Cond.code ({ cls := "java/util/Arrays", name := "copyOfRangeLong", desc := "([JII)[J" } : Jvm.MethodName) jdk_65_method_139_code (5 : Nat) (Option.some (Jvm.ClassFile.FieldType.array Jvm.ClassFile.FieldType.long))).before args0 about1 = true := code_word (m := ⟨3, 6⟩) (meth := k3m6) (c := k3c6) (by decide +kernel) rfl rfl rfl (by decide +kernel)
set_option maxRecDepth 65536 in
theorem w_c10 : (Jvm.Cond.code ({ cls := "java/util/Arrays", name := "checkLength", desc := "(II)V" } : Jvm.MethodName) jdk_65_method_131_code (2 : Nat) (Option.none : Option Jvm.ClassFile.FieldType)).before args0 about1 = true := code_word (m := ⟨3, 4⟩) (meth := k3m4) (c := k3c4) (by decide +kernel) rfl rfl rfl (by decide +kernel)
set_option maxRecDepth 65536 in
theorem w_c11 : (Jvm.Cond.code ({ cls := "java/lang/Math", name := "min", desc := "(II)I" } : Jvm.MethodName) jdk_29_method_69_code (2 : Nat) (Option.some Jvm.ClassFile.FieldType.int)).before args0 about1 = true := code_word (m := ⟨4, 1⟩) (meth := k4m1) (c := k4c1) (by decide +kernel) rfl rfl rfl (by decide +kernel)
set_option maxRecDepth 65536 in
theorem w_c12 : (Jvm.Cond.code ({ cls := "java/util/BitSet", name := "valueOf", desc := "([J)Ljava/util/BitSet;" } : Jvm.MethodName) jdk_92_method_8_code (2 : Nat) (Option.some (Jvm.ClassFile.FieldType.object "java/util/BitSet"))).before args0 about1 = true := code_word (m := ⟨8, 3⟩) (meth := k8m3) (c := k8c3) (by decide +kernel) rfl rfl rfl (by decide +kernel)
set_option maxRecDepth 65536 in
theorem w_c13 : (Jvm.Cond.code ({ cls := "java/util/Arrays", name := "copyOf", desc := "([JI)[J" } : Jvm.MethodName) jdk_65_method_124_code (3 : Nat) (Option.some (Jvm.ClassFile.FieldType.array Jvm.ClassFile.FieldType.long))).before args0 about1 = true := code_word (m := ⟨3, 3⟩) (meth := k3m3) (c := k3c3) (by decide +kernel) rfl rfl rfl (by decide +kernel)
set_option maxRecDepth 65536 in
theorem w_c14 : (Jvm.Cond.code ({ cls := "java/util/BitSet", name := "<init>", desc := "([J)V" } : Jvm.MethodName) jdk_92_method_7_code (2 : Nat) (Option.none : Option Jvm.ClassFile.FieldType)).before args0 about1 = true := code_word (m := ⟨8, 2⟩) (meth := k8m2) (c := k8c2) (by decide +kernel) rfl rfl rfl (by decide +kernel)
set_option maxRecDepth 65536 in
theorem w_c15 : (Jvm.Cond.code ({ cls := "java/util/BitSet", name := "checkInvariants", desc := "()V" } : Jvm.MethodName) jdk_92_method_2_code (1 : Nat) (Option.none : Option Jvm.ClassFile.FieldType)).before args0 about1 = true := code_word (m := ⟨8, 0⟩) (meth := k8m0) (c := k8c0) (by decide +kernel) rfl rfl rfl (by decide +kernel)
set_option maxRecDepth 65536 in
theorem w_c16 : (Jvm.Cond.code ({ cls := "java/util/BitSet", name := "toLongArray", desc := "()[J" } : Jvm.MethodName) jdk_92_method_13_code (1 : Nat) (Option.some (Jvm.ClassFile.FieldType.array Jvm.ClassFile.FieldType.long))).before args0 about1 = true := code_word (m := ⟨8, 4⟩) (meth := k8m4) (c := k8c4) (by decide +kernel) rfl rfl rfl (by decide +kernel)
set_option maxRecDepth 65536 in
theorem w_c17 : (Jvm.Cond.code ({ cls := "com/example/inya/inya/SearchPathGatherPinLaw", name := "matches", desc := "([JJJ)Z" } : Jvm.MethodName) method_2_code (5 : Nat) (Option.some Jvm.ClassFile.FieldType.boolean)).before args0 about1 = true := code_word (m := ⟨1, 1⟩) (meth := k1m1) (c := k1c1) (by decide +kernel) rfl rfl rfl (by decide +kernel)
def codes1 : List Jvm.Cond := [Jvm.Cond.code x code maxLocals ret, Jvm.Cond.code ({ cls := "com/example/inya/inya/SearchPath", name := "<init>", desc := "(I)V" } : Jvm.MethodName) prog_71_method_1_code (2 : Nat) (Option.none : Option Jvm.ClassFile.FieldType), Jvm.Cond.code ({ cls := "java/lang/Object", name := "<init>", desc := "()V" } : Jvm.MethodName) object_method_1_code (1 : Nat) (Option.none : Option Jvm.ClassFile.FieldType), Jvm.Cond.code ({ cls := "com/example/inya/inya/SearchPath", name := "add", desc := "(I)V" } : Jvm.MethodName) prog_71_method_4_code (2 : Nat) (Option.none : Option Jvm.ClassFile.FieldType), Jvm.Cond.code ({ cls := "java/util/Arrays", name := "fill", desc := "([JIIJ)V" } : Jvm.MethodName) jdk_65_method_102_code (6 : Nat) (Option.none : Option Jvm.ClassFile.FieldType), Jvm.Cond.code ({ cls := "java/util/Arrays", name := "rangeCheck", desc := "(III)V" } : Jvm.MethodName) jdk_65_method_30_code (3 : Nat) (Option.none : Option Jvm.ClassFile.FieldType), Jvm.Cond.code ({ cls := "com/example/inya/inya/SearchPath", name := "gather", desc := "(I[JI)V" } : Jvm.MethodName) prog_71_method_13_code (5 : Nat) (Option.none : Option Jvm.ClassFile.FieldType), Jvm.Cond.code ({ cls := "com/example/inya/inya/SearchPath", name := "gathered", desc := "(I)Ljava/util/BitSet;" } : Jvm.MethodName) prog_71_method_15_code (2 : Nat) (Option.some (Jvm.ClassFile.FieldType.object "java/util/BitSet")), Jvm.Cond.code ({ cls := "java/util/Arrays", name := "copyOfRange", desc := "([JII)[J" } : Jvm.MethodName) jdk_65_method_138_code (3 : Nat) (Option.some (Jvm.ClassFile.FieldType.array Jvm.ClassFile.FieldType.long)), Jvm.Cond.code ({ cls := "java/util/Arrays", name := "copyOfRangeLong", desc := "([JII)[J" } : Jvm.MethodName) jdk_65_method_139_code (5 : Nat) (Option.some (Jvm.ClassFile.FieldType.array Jvm.ClassFile.FieldType.long)), Jvm.Cond.code ({ cls := "java/util/Arrays", name := "checkLength", desc := "(II)V" } : Jvm.MethodName) jdk_65_method_131_code (2 : Nat) (Option.none : Option Jvm.ClassFile.FieldType), Jvm.Cond.code ({ cls := "java/lang/Math", name := "min", desc := "(II)I" } : Jvm.MethodName) jdk_29_method_69_code (2 : Nat) (Option.some Jvm.ClassFile.FieldType.int), Jvm.Cond.code ({ cls := "java/util/BitSet", name := "valueOf", desc := "([J)Ljava/util/BitSet;" } : Jvm.MethodName) jdk_92_method_8_code (2 : Nat) (Option.some (Jvm.ClassFile.FieldType.object "java/util/BitSet")), Jvm.Cond.code ({ cls := "java/util/Arrays", name := "copyOf", desc := "([JI)[J" } : Jvm.MethodName) jdk_65_method_124_code (3 : Nat) (Option.some (Jvm.ClassFile.FieldType.array Jvm.ClassFile.FieldType.long)), Jvm.Cond.code ({ cls := "java/util/BitSet", name := "<init>", desc := "([J)V" } : Jvm.MethodName) jdk_92_method_7_code (2 : Nat) (Option.none : Option Jvm.ClassFile.FieldType), Jvm.Cond.code ({ cls := "java/util/BitSet", name := "checkInvariants", desc := "()V" } : Jvm.MethodName) jdk_92_method_2_code (1 : Nat) (Option.none : Option Jvm.ClassFile.FieldType), Jvm.Cond.code ({ cls := "java/util/BitSet", name := "toLongArray", desc := "()[J" } : Jvm.MethodName) jdk_92_method_13_code (1 : Nat) (Option.some (Jvm.ClassFile.FieldType.array Jvm.ClassFile.FieldType.long)), Jvm.Cond.code ({ cls := "com/example/inya/inya/SearchPathGatherPinLaw", name := "matches", desc := "([JJJ)Z" } : Jvm.MethodName) method_2_code (5 : Nat) (Option.some Jvm.ClassFile.FieldType.boolean)]
set_option maxRecDepth 65536 in
theorem codes_eq : words1.filter isCode = codes1 := rfl
theorem w_codes : ∀ c ∈ words1.filter isCode, c.before args0 about1 = true := by
  rw [codes_eq]
  intro c hc
  simp only [codes1, List.mem_cons, List.not_mem_nil, or_false] at hc
  rcases hc with rfl | rfl | rfl | rfl | rfl | rfl | rfl | rfl | rfl | rfl | rfl | rfl | rfl | rfl | rfl | rfl | rfl | rfl
  · exact w_c0
  · exact w_c1
  · exact w_c2
  · exact w_c3
  · exact w_c4
  · exact w_c5
  · exact w_c6
  · exact w_c7
  · exact w_c8
  · exact w_c9
  · exact w_c10
  · exact w_c11
  · exact w_c12
  · exact w_c13
  · exact w_c14
  · exact w_c15
  · exact w_c16
  · exact w_c17
set_option maxRecDepth 65536 in
theorem w_t1 : (words1.take 24).all (fun c => isCode c || c.before args0 about1) = true := by decide +kernel
set_option maxRecDepth 65536 in
theorem w_t2 : ((words1.drop 24).take 24).all (fun c => isCode c || c.before args0 about1) = true := by decide +kernel
set_option maxRecDepth 65536 in
theorem w_t3 : (((words1.drop 24).drop 24).take 24).all (fun c => isCode c || c.before args0 about1) = true := by decide +kernel
set_option maxRecDepth 65536 in
theorem w_t4 : ((((words1.drop 24).drop 24).drop 24).take 24).all (fun c => isCode c || c.before args0 about1) = true := by decide +kernel
set_option maxRecDepth 65536 in
theorem w_t5 : ((((words1.drop 24).drop 24).drop 24).drop 24).all (fun c => isCode c || c.before args0 about1) = true := by decide +kernel
theorem w_tables : (allAtoms (Jvm.Cond.code x code maxLocals ret :: tables_1)).before args0 about1 = true := by
  rw [allAtoms_all]
  show words1.all (fun c => c.before args0 about1) = true
  refine all_split ?_ w_codes
  rw [← List.take_append_drop 24 words1, List.all_append, w_t1, ← List.take_append_drop 24 (words1.drop 24), List.all_append, w_t2, ← List.take_append_drop 24 ((words1.drop 24).drop 24), List.all_append, w_t3, ← List.take_append_drop 24 (((words1.drop 24).drop 24).drop 24), List.all_append, w_t4, w_t5]
  rfl
set_option maxRecDepth 65536 in
theorem w_rest : rest_1_c.before args0 about1 = true := by decide +kernel
set_option maxRecDepth 65536 in
theorem w_case : (Jvm.Cond.and given_1 narrow_1).before args0 about1 = true := by decide +kernel
theorem w_applies : (headSpec (Jvm.Cond.code x code maxLocals ret :: tables_1) room_1).applies x e0.platform about1 = true :=
  (Spec.applies_iff w_frames).mpr ⟨w_running, w_runnable, w_alone, w_named, w_hears, w_ripe, w_room, w_tables⟩
theorem atStart : AtStart classFile x code maxLocals ret World_1 tables_1 room_1 Calls_1 rest_1 Pre_1 launch0 p0 e0 about1 theMethod args0 below0 :=
  ⟨lists_1, trivial, launch0.admits_env _ _ _, launch0.least_env, fairChoices_fair.cas, fairChoices_fair.clock, w_frames, w_args, w_heap, w_applies, trivial, w_rest, w_case⟩
end start1
theorem witness_1 : WitnessClaimed_1 := ⟨start1.p0, start1.e0, start1.about1, start1.theMethod, start1.args0, start1.below0, start1.atStart⟩
end Jvm.Pilot.@@N@@
