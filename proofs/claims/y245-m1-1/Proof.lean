import JvmDerived
import JvmDerived.Pilot.@@N@@Statement
import JvmDerived.Pilot.@@N@@Code
set_option linter.unusedVariables false
set_option linter.unusedSimpArgs false
namespace Jvm.Pilot.@@N@@
open Jvm Jvm.ClassFile Sem Op Lib Jvm.Free Jvm.Stand Jvm.LawKit Jvm.RoadKit Bundle Jvm.Pilot.@@N@@.Jvm.D
/-! OWN KIT: a walk as a goal that goes forward (OGets), and a list of the fresh objects with what they hold (OView) -/
section OwnKit
variable {p : Program} {l : Launch} {e : Env} {R : Room} {s : State} {m : MethodId} {args : Array Value} {below : List Frame} {meth : Method} {c : Code} {T : State} {locs : List Loc} {cells slots : Nat} {Z : State} {a0 : Array Value} {h h' : Heap} {n0 : Nat}
/-- from U the run comes to an end that P allows -/
def OGets (p : Program) (e : Env) (below : List Frame) (P : State → Outcome → Prop) (U : State) : Prop := ∃ s₂ o, Steps p.tables e below U s₂ ∧ s₂.status = .running ∧ Ended s₂ below o ∧ P s₂ o
def OLeaves (s : State) (Q : Option Value → Heap → List Loc → Prop) (k n : Nat) (t : State) (o : Outcome) : Prop := ∃ v L, o = .returned v ∧ Q v t.heap L ∧ FrameEnd s o t L k n
theorem OGets.step {P : State → Outcome → Prop} {U U' : State} (k : ∀ t, Steps p.tables e below U' t → Steps p.tables e below U t) (g : OGets p e below P U') : OGets p e below P U := by
  obtain ⟨t, o, h1, h2⟩ := g
  exact ⟨t, o, k t h1, h2⟩
theorem OGets.after {P : State → Outcome → Prop} {U U' : State} (k : Steps p.tables e below U U') (g : OGets p e below P U') : OGets p e below P U := by
  obtain ⟨t, o, h1, h2⟩ := g
  exact ⟨t, o, k.trans h1, h2⟩
theorem OGets.enter {P : State → Outcome → Prop} {g g' : JFrame} (q : g = g') (k : OGets p e below P (T.setTop g')) : OGets p e below P (T.setTop g) := q ▸ k
theorem OGets.cut {P : State → Outcome → Prop} {U U' : State} (k : OGets p e below P U') (f : OGets p e below P U' → OGets p e below P U) : OGets p e below P U := f k
theorem OGets.retN (X : Stand p l e R s m args below meth c T locs cells slots) (hx : p.tables.exec = Jvm.exec) (hk : meth.locks = false) {t : FieldType} (hret : meth.sig.returnType = some t) (ht : t = .boolean ∨ t = .byte ∨ t = .char ∨ t = .short) {pc : Nat} {Ls : Array Slot} {z : Int32} {rest : List Value}
    (hd : decode c.code pc = .ok (.ireturn, 1)) {Q : Option Value → Heap → List Loc → Prop} {k n : Nat} (hc : cells ≤ k) (hs : slots ≤ n) (hQ : Q (some (.int (nar t z))) T.heap locs) : OGets p e below (OLeaves s Q k n) (T.setTop (mkF m pc Ls (.int z :: rest))) := by
  obtain ⟨fs, hr, hrun, hended, hW, hsame⟩ := X.leave (v := some (.int (nar t z))) (fun h => by rw [hret] at h; cases h) hk
  exact ⟨_, _, Jvm.RoadKit.retN X hx hret ht hd hr, hrun, hended, _, _, rfl, hQ, ⟨_, rfl⟩, hW, hsame.mono hc hs⟩
theorem OGets.retI (X : Stand p l e R s m args below meth c T locs cells slots) (hx : p.tables.exec = Jvm.exec) (hk : meth.locks = false) (hret : meth.sig.returnType = some .int) {pc : Nat} {Ls : Array Slot} {z : Int32} {rest : List Value}
    (hd : decode c.code pc = .ok (.ireturn, 1)) {Q : Option Value → Heap → List Loc → Prop} {k n : Nat} (hc : cells ≤ k) (hs : slots ≤ n) (hQ : Q (some (.int z)) T.heap locs) : OGets p e below (OLeaves s Q k n) (T.setTop (mkF m pc Ls (.int z :: rest))) := by
  obtain ⟨fs, hr, hrun, hended, hW, hsame⟩ := X.leave (v := some (.int z)) (fun h => by rw [hret] at h; cases h) hk
  exact ⟨_, _, Jvm.RoadKit.retOut X hx hret rfl (Or.inl ⟨rfl, Or.inl rfl, _, rfl⟩) hd hr, hrun, hended, _, _, rfl, hQ, ⟨_, rfl⟩, hW, hsame.mono hc hs⟩
theorem OGets.retJ (X : Stand p l e R s m args below meth c T locs cells slots) (hx : p.tables.exec = Jvm.exec) (hk : meth.locks = false) (hret : meth.sig.returnType = some .long) {pc : Nat} {Ls : Array Slot} {z : Int64} {rest : List Value}
    (hd : decode c.code pc = .ok (.lreturn, 1)) {Q : Option Value → Heap → List Loc → Prop} {k n : Nat} (hc : cells ≤ k) (hs : slots ≤ n) (hQ : Q (some (.long z)) T.heap locs) : OGets p e below (OLeaves s Q k n) (T.setTop (mkF m pc Ls (.long z :: rest))) := by
  obtain ⟨fs, hr, hrun, hended, hW, hsame⟩ := X.leave (v := some (.long z)) (fun h => by rw [hret] at h; cases h) hk
  exact ⟨_, _, Jvm.RoadKit.retOut X hx hret rfl (Or.inr (Or.inl ⟨rfl, rfl, _, rfl⟩)) hd hr, hrun, hended, _, _, rfl, hQ, ⟨_, rfl⟩, hW, hsame.mono hc hs⟩
theorem OGets.retA (X : Stand p l e R s m args below meth c T locs cells slots) (hx : p.tables.exec = Jvm.exec) (hk : meth.locks = false) {t : FieldType} (hret : meth.sig.returnType = some t) (ht : t.isReference = true) {pc : Nat} {Ls : Array Slot} {w : Value} {rest : List Value} (hw : w.isRef = true) (hn : narrow t w = w)
    (hd : decode c.code pc = .ok (.areturn, 1)) {Q : Option Value → Heap → List Loc → Prop} {k n : Nat} (hc : cells ≤ k) (hs : slots ≤ n) (hQ : Q (some w) T.heap locs) : OGets p e below (OLeaves s Q k n) (T.setTop (mkF m pc Ls (w :: rest))) := by
  obtain ⟨fs, hr, hrun, hended, hW, hsame⟩ := X.leave (v := some w) (fun h => by rw [hret] at h; cases h) hk
  exact ⟨_, _, Jvm.RoadKit.retOut X hx hret hn (Or.inr (Or.inr (Or.inr (Or.inr ⟨rfl, ht, hw⟩)))) hd hr, hrun, hended, _, _, rfl, hQ, ⟨_, rfl⟩, hW, hsame.mono hc hs⟩
theorem OGets.retV (X : Stand p l e R s m args below meth c T locs cells slots) (hx : p.tables.exec = Jvm.exec) (hk : meth.locks = false) (hret : meth.sig.returnType = none) {pc : Nat} {Ls : Array Slot}
    (hd : decode c.code pc = .ok (.return_, 1)) {Q : Option Value → Heap → List Loc → Prop} {k n : Nat} (hc : cells ≤ k) (hs : slots ≤ n) (hQ : Q none T.heap locs) : OGets p e below (OLeaves s Q k n) (T.setTop (mkF m pc Ls [])) := by
  obtain ⟨fs, hr, hrun, hended, hW, hsame⟩ := X.leave (v := none) (fun _ => rfl) hk
  exact ⟨_, _, X.returnOut hx hret hd hr, hrun, hended, _, _, rfl, hQ, ⟨_, rfl⟩, hW, hsame.mono hc hs⟩
/-- an object (class, fields, their values) or an array (what it is of, its components) -/
abbrev OObj : Type := Sum (String × List (String × String × String) × List Value) (FieldType × List Value)
def OHold (Z : State) (h : Heap) (a : Addr) (o : OObj) : Prop :=
  (∀ q, o = Sum.inl q → Exa Z h a q.1 ∧ q.2.1.Pairwise (fun x y => Jvm.RoadKit.slotOf Z x.1 x.2.1 x.2.2 ≠ Jvm.RoadKit.slotOf Z y.1 y.2.1 y.2.2) ∧ ∀ (j : Nat) (k : String × String × String) (v : Value), q.2.1[j]? = some k → q.2.2[j]? = some v → Fld Z h a k.1 k.2.1 k.2.2 v) ∧
  (∀ q, o = Sum.inr q → ∃ cl : Cell, Arr Z h a cl q.1 ∧ cl.slots.toList = q.2)
variable {a b : Addr} {o : OObj} {sl : Nat} {v : Value} {os : List (Addr × OObj)} {C : String} {ns : List (String × String × String)} {vs : List Value} {ty : FieldType}
theorem OHold.other (W : Wr h h' a sl v) (hne : b ≠ a) (H : OHold Z h b o) : OHold Z h' b o := by
  refine ⟨fun q hq => ?_, fun q hq => ?_⟩
  · obtain ⟨h1, h2, h3⟩ := H.1 q hq
    exact ⟨h1.wr W, h2, fun j k w e1 e2 => (h3 j k w e1 e2).other W (Or.inl hne)⟩
  · obtain ⟨cl, h1, h2⟩ := H.2 q hq
    exact ⟨cl, h1.other W hne, h2⟩
theorem OHold.ext (E : Ext h h') (H : OHold Z h b o) : OHold Z h' b o := by
  refine ⟨fun q hq => ?_, fun q hq => ?_⟩
  · obtain ⟨h1, h2, h3⟩ := H.1 q hq
    exact ⟨h1.ext E, h2, fun j k w e1 e2 => (h3 j k w e1 e2).ext E⟩
  · obtain ⟨cl, h1, h2⟩ := H.2 q hq
    exact ⟨cl, h1.ext E, h2⟩
theorem OHold.obj (h1 : Exa Z h a C) (h2 : ns.Pairwise (fun x y => Jvm.RoadKit.slotOf Z x.1 x.2.1 x.2.2 ≠ Jvm.RoadKit.slotOf Z y.1 y.2.1 y.2.2)) (h3 : ∀ (j : Nat) (k : String × String × String) (v : Value), ns[j]? = some k → vs[j]? = some v → Fld Z h a k.1 k.2.1 k.2.2 v) : OHold Z h a (Sum.inl (C, ns, vs)) :=
  ⟨fun q hq => (by cases hq; exact ⟨h1, h2, h3⟩), fun q hq => (by cases hq)⟩
theorem OHold.arr {cl : Cell} (h1 : Arr Z h a cl ty) (h2 : cl.slots.toList = vs) : OHold Z h a (Sum.inr (ty, vs)) :=
  ⟨fun q hq => (by cases hq), fun q hq => (by cases hq; exact ⟨cl, h1, h2⟩)⟩
theorem OHold.putF (H : OHold Z h a (Sum.inl (C, ns, vs))) {j : Nat} {k : String × String × String} (hj : ns[j]? = some k) (W : Wr h h' a (Jvm.RoadKit.slotOf Z k.1 k.2.1 k.2.2) v) : OHold Z h' a (Sum.inl (C, ns, vs.set j v)) := by
  obtain ⟨h1, h2, h3⟩ := H.1 _ rfl
  refine OHold.obj (h1.wr W) h2 fun i k' w e1 e2 => ?_
  by_cases q : j = i
  · subst q
    rw [hj] at e1; cases e1
    rw [List.getElem?_set] at e2
    split at e2
    · split at e2
      · rename_i hlt
        cases e2
        exact (h3 j k _ hj (List.getElem?_eq_getElem hlt)).same W
      · cases e2
    · exact absurd rfl ‹_›
  · rw [List.getElem?_set_ne q] at e2
    refine (h3 i k' w e1 e2).other W (Or.inr ?_)
    obtain ⟨hi, e1⟩ := List.getElem?_eq_some_iff.mp e1
    obtain ⟨hj', hj⟩ := List.getElem?_eq_some_iff.mp hj
    have P := List.pairwise_iff_getElem.mp h2
    subst e1 hj
    rcases Nat.lt_or_gt_of_ne q with q | q
    · exact (P j i hj' hi q).symm
    · exact P i j hi hj' q
theorem OHold.putA (H : OHold Z h a (Sum.inr (ty, vs))) {j : Nat} (W : Wr h h' a j v) : OHold Z h' a (Sum.inr (ty, vs.set j v)) := by
  obtain ⟨cl, h1, h2⟩ := H.2 _ rfl
  exact OHold.arr (h1.same W) (by show (cl.slots.setIfInBounds j v).toList = vs.set j v; rw [Array.toList_setIfInBounds]; exact congrArg (fun z => z.set j v) h2)
/-- the objects made since the law began, as a list: no two at one place, none old, each as said -/
def OView (Z : State) (n0 : Nat) (h : Heap) (os : List (Addr × OObj)) : Prop := (os.map (·.1)).Nodup ∧ ∀ q ∈ os, n0 ≤ q.1 ∧ q.1 < h.size ∧ OHold Z h q.1 q.2
theorem OView.nil (Z : State) (n0 : Nat) (h : Heap) : OView Z n0 h [] := ⟨List.nodup_nil, fun q hq => by cases hq⟩
theorem OView.perm {os' : List (Addr × OObj)} (V : OView Z n0 h os) (P : os.Perm os') : OView Z n0 h os' := ⟨(P.map _).nodup_iff.mp V.1, fun q hq => V.2 q (P.mem_iff.mpr hq)⟩
theorem own_bring {α : Type} : ∀ (os : List α) (i : Nat) (q : α), os[i]? = some q → os.Perm (q :: os.eraseIdx i)
  | [], i, q, hq => by cases hq
  | x :: t, 0, q, hq => by cases hq; exact List.Perm.refl _
  | x :: t, i + 1, q, hq => (List.Perm.cons x (own_bring t i q hq)).trans (List.Perm.swap q x _)
theorem own_set {α : Type} : ∀ (os : List α) (i : Nat) (q r : α), os[i]? = some q → (r :: os.eraseIdx i).Perm (os.set i r)
  | [], i, q, r, hq => by cases hq
  | x :: t, 0, q, r, hq => List.Perm.refl _
  | x :: t, i + 1, q, r, hq => (List.Perm.swap x r _).trans (List.Perm.cons x (own_set t i q r hq))
theorem OView.bring (V : OView Z n0 h os) (i : Nat) {q : Addr × OObj} (hq : os[i]? = some q) : OView Z n0 h (q :: os.eraseIdx i) := V.perm (own_bring os i q hq)
theorem OView.at (V : OView Z n0 h os) (i : Nat) {q : Addr × OObj} (hq : os[i]? = some q) : n0 ≤ q.1 ∧ q.1 < h.size ∧ OHold Z h q.1 q.2 := V.2 q (List.mem_of_getElem? hq)
theorem OView.old (V : OView Z n0 h os) (i : Nat) {a : Addr} {o : OObj} (hq : os[i]? = some (a, o)) : n0 ≤ a := (V.at i hq).1
theorem OView.big (V : OView Z n0 h os) (i : Nat) {q : Addr × OObj} (hq : os[i]? = some q) : n0 ≤ h.size := Nat.le_trans (V.at i hq).1 (Nat.le_of_lt (V.at i hq).2.1)
theorem OView.exa (V : OView Z n0 h os) (i : Nat) {a : Addr} (hq : os[i]? = some (a, Sum.inl (C, ns, vs))) : Exa Z h a C := ((V.at i hq).2.2.1 _ rfl).1
theorem OView.fld (V : OView Z n0 h os) (i : Nat) {a : Addr} (hq : os[i]? = some (a, Sum.inl (C, ns, vs))) (j : Nat) {O n d : String} (hj : ns[j]? = some (O, n, d)) (hv : vs[j]? = some v) : Fld Z h a O n d v := ((V.at i hq).2.2.1 _ rfl).2.2 j _ v hj hv
theorem OView.arr (V : OView Z n0 h os) (i : Nat) {a : Addr} (hq : os[i]? = some (a, Sum.inr (ty, vs))) : ∃ cl : Cell, Arr Z h a cl ty ∧ cl.slots.toList = vs := (V.at i hq).2.2.2 _ rfl
theorem OView.up (V : OView Z n0 h os) (W : Wr h h' a sl v) (i : Nat) {o o' : OObj} (hq : os[i]? = some (a, o)) (H : OHold Z h' a o') : OView Z n0 h' (os.set i (a, o')) := by
  have V1 := V.bring i hq
  have V2 : OView Z n0 h' ((a, o') :: os.eraseIdx i) := by
    refine ⟨V1.1, fun q hq' => ?_⟩
    rcases List.mem_cons.mp hq' with rfl | hq'
    · exact ⟨(V.at i hq).1, by rw [W.size]; exact (V.at i hq).2.1, H⟩
    · obtain ⟨h1, h2, h3⟩ := V1.2 q (List.mem_cons_of_mem _ hq')
      refine ⟨h1, by rw [W.size]; exact h2, h3.other W fun e => ?_⟩
      have := (List.nodup_cons.mp V1.1).1
      exact this (List.mem_map.mpr ⟨q, hq', e⟩)
  exact V2.perm (own_set os i _ _ hq)
theorem OView.putF (V : OView Z n0 h os) (i : Nat) (hq : os[i]? = some (a, Sum.inl (C, ns, vs))) (j : Nat) {O n d : String} (hj : ns[j]? = some (O, n, d)) (W : Wr h h' a (Jvm.RoadKit.slotOf Z O n d) v) : OView Z n0 h' (os.set i (a, Sum.inl (C, ns, vs.set j v))) := V.up W i hq ((V.at i hq).2.2.putF hj W)
theorem OView.putA (V : OView Z n0 h os) (i : Nat) (hq : os[i]? = some (a, Sum.inr (ty, vs))) {j : Nat} (W : Wr h h' a j v) : OView Z n0 h' (os.set i (a, Sum.inr (ty, vs.set j v))) := V.up W i hq ((V.at i hq).2.2.putA W)
theorem OView.ext (V : OView Z n0 h os) (E : Ext h h') : OView Z n0 h' os := ⟨V.1, fun q hq => ⟨(V.2 q hq).1, Nat.lt_of_lt_of_le (V.2 q hq).2.1 E.1, (V.2 q hq).2.2.ext E⟩⟩
theorem OView.cons (V : OView Z n0 h os) (hn : n0 ≤ h.size) (E : Ext h h') (hlt : h.size < h'.size) (H : OHold Z h' h.size o) : OView Z n0 h' ((h.size, o) :: os) := by
  refine ⟨List.nodup_cons.mpr ⟨fun hm => ?_, V.1⟩, fun q hq => ?_⟩
  · obtain ⟨q, h1, h2⟩ := List.mem_map.mp hm
    exact Nat.lt_irrefl _ (h2 ▸ (V.2 q h1).2.1)
  · rcases List.mem_cons.mp hq with rfl | hq
    · exact ⟨hn, hlt, H⟩
    · exact (V.ext E).2 q hq
theorem own_pair (hL : ∀ x ∈ ns, Laid Z a0 C x.1 x.2.1 x.2.2) (hd : ∀ x ∈ ns, (parseFieldDescriptor x.2.2).isSome = true) (hn : ns.Pairwise (fun x y => x.2.1 ≠ y.2.1)) : ns.Pairwise (fun x y => Jvm.RoadKit.slotOf Z x.1 x.2.1 x.2.2 ≠ Jvm.RoadKit.slotOf Z y.1 y.2.1 y.2.2) :=
  hn.imp_of_mem fun {x y} hx hy hne => by
    obtain ⟨t, ht⟩ := Option.isSome_iff_exists.mp (hd x hx)
    obtain ⟨t', ht'⟩ := Option.isSome_iff_exists.mp (hd y hy)
    exact slot_ne (hL x hx) (hL y hy) hne ht ht'
/-- a fresh object, as 'new' leaves it -/
theorem OView.newObj (V : OView Z n0 h os) (hn : n0 ≤ h.size) (E : Ext h h') (A : Exa Z h' h.size C) (D : ∀ {O nm d : String} {ty : FieldType}, Laid Z a0 C O nm d → parseFieldDescriptor d = some ty → Fld Z h' h.size O nm d (defaultValue ty))
    (hL : ∀ x ∈ ns, Laid Z a0 C x.1 x.2.1 x.2.2) (hd : ns.map (fun x => (parseFieldDescriptor x.2.2).map defaultValue) = vs.map some) (hnm : ns.Pairwise (fun x y => x.2.1 ≠ y.2.1)) : OView Z n0 h' ((h.size, Sum.inl (C, ns, vs)) :: os) := by
  have hs : ∀ x ∈ ns, (parseFieldDescriptor x.2.2).isSome = true := fun x hx => by
    have h1 : (parseFieldDescriptor x.2.2).map defaultValue ∈ vs.map some := hd ▸ List.mem_map.mpr ⟨x, hx, rfl⟩
    obtain ⟨w, -, h2⟩ := List.mem_map.mp h1
    cases hp : parseFieldDescriptor x.2.2 with
    | none => rw [hp] at h2; cases h2
    | some t => rfl
  refine V.cons hn E A.lt (OHold.obj A (own_pair hL hs hnm) fun j k w e1 e2 => ?_)
  have h1 : (ns.map (fun x => (parseFieldDescriptor x.2.2).map defaultValue))[j]? = some ((parseFieldDescriptor k.2.2).map defaultValue) := by rw [List.getElem?_map, e1]; rfl
  have h2 : (vs.map some)[j]? = some (some w) := by rw [List.getElem?_map, e2]; rfl
  rw [hd, h2] at h1
  have h3 := Option.some.inj h1
  cases hp : parseFieldDescriptor k.2.2 with
  | none => rw [hp] at h3; cases h3
  | some t =>
    rw [hp] at h3
    cases Option.some.inj h3
    exact D (hL k (List.mem_of_getElem? e1)) hp
/-- a fresh array -/
theorem OView.newArr (V : OView Z n0 h os) (hn : n0 ≤ h.size) (E : Ext h h') {cA : ClassId} {z : Int32} (A : Arr Z h' h.size (newA cA ty z) ty) (k : Nat) (hk : z.toNatClampNeg = k) : OView Z n0 h' ((h.size, Sum.inr (ty, List.replicate k (defaultValue ty))) :: os) := by
  refine V.cons hn E A.lt (OHold.arr A ?_)
  rw [← hk]; simp [newA]
theorem own_inb {cl : Cell} {vs : List Value} (hs : cl.slots.toList = vs) {j : Int32} (k : Nat) (hj : j.toInt = (k : Int)) (hk : k < vs.length) : ¬ (j < 0 ∨ cl.slots.size ≤ j.toNatClampNeg) := by
  have h1 : cl.slots.size = vs.length := by rw [← hs]; simp
  have e0 : (0 : Int32).toInt = 0 := rfl
  rw [h1]
  simp only [Int32.lt_iff_toInt_lt, Int32.toNatClampNeg, hj, e0]
  omega
theorem own_clamp {j : Int32} (k : Nat) (hj : j.toInt = (k : Int)) : j.toNatClampNeg = k := by simp only [Int32.toNatClampNeg, hj]; omega
theorem own_get {cl : Cell} {vs : List Value} (hs : cl.slots.toList = vs) {j : Int32} (k : Nat) (hj : j.toInt = (k : Int)) {v : Value} (hv : vs[k]? = some v) : cl.slots[j.toNatClampNeg]? = some v := by
  rw [own_clamp k hj, ← Array.getElem?_toList, hs]; exact hv
theorem own_wr {vs : List Value} {j : Int32} (k : Nat) (hj : j.toInt = (k : Int)) (W : Wr h h' a j.toNatClampNeg v) : Wr h h' a k v := by rw [own_clamp k hj] at W; exact W
theorem own_len {cl : Cell} {vs : List Value} (hs : cl.slots.toList = vs) : cl.slots.size = vs.length := by rw [← hs]; simp
end OwnKit
def f_inr_14 (p0 : Int32) (p1 : Int32) (p2 : Int32) : Int32 := (0 : Int32)
def f_inr (p0 : Int32) (p1 : Int32) (p2 : Int32) : Int32 := (if p0 < p1 then f_inr_14 p0 p1 p2 else (if p2 < p0 then f_inr_14 p0 p1 p2 else (1 : Int32)))
theorem dm2_14 : decode method_2_code 14 = .ok (.iconst 0, 1) := by decide +kernel
theorem dm2_15 : decode method_2_code 15 = .ok (.ireturn, 1) := by decide +kernel
theorem pn_0 : plainName "com/example/guarded_expansion/guardedexpansion/XmlCharsIsNameStartCharPinLaw" = true := by first | (simp [plainName, overriddenIn]; done) | decide +kernel
theorem dm2_0 : decode method_2_code 0 = .ok (.iload_n 0, 1) := by decide +kernel
theorem dm2_1 : decode method_2_code 1 = .ok (.iload_n 1, 1) := by decide +kernel
theorem dm2_2 : decode method_2_code 2 = .ok (.if_icmp .lt 12, 3) := by decide +kernel
theorem dm2_5 : decode method_2_code 5 = .ok (.iload_n 0, 1) := by decide +kernel
theorem dm2_6 : decode method_2_code 6 = .ok (.iload_n 2, 1) := by decide +kernel
theorem dm2_7 : decode method_2_code 7 = .ok (.if_icmp .gt 7, 3) := by decide +kernel
theorem dm2_10 : decode method_2_code 10 = .ok (.iconst 1, 1) := by decide +kernel
theorem dm2_11 : decode method_2_code 11 = .ok (.goto 4, 3) := by decide +kernel
theorem ef_inr (m : MethodId) (x0 : Int32) (x1 : Int32) (x2 : Int32) : entryFrame m #[(.int x0), (.int x1), (.int x2)] 3 = mkF m 0 #[.val (.int x0), .val (.int x1), .val (.int x2)] [] := by first | (simp [entryFrame, mkF, argsToLocals, Value.category]; done) | rfl
def Q_inr (Z : State) (p0 : Int32) (p1 : Int32) (p2 : Int32) (h0 : Heap) (n0 : Nat) (v : Option Value) (h : Heap) (L : List Loc) : Prop := v = some (.int (f_inr p0 p1 p2)) ∧ L = [] ∧ h = h0
set_option maxRecDepth 65536 in
set_option maxHeartbeats 40000000 in
theorem rm_inr (l : Launch) (Z : State) (a0 : Array Value) (hw : ∀ d ∈ tables_1, d.before a0 Z = true) (ws : List Jvm.Cond) (p0 : Int32) (p1 : Int32) (p2 : Int32) (h0 : Heap) (n0 : Nat) (Z0 : n0 ≤ h0.size) :
    MetFree l (⟨"com/example/guarded_expansion/guardedexpansion/XmlCharsIsNameStartCharPinLaw", "in", "(III)Z"⟩ : MethodName) (head1 (Jvm.Cond.code (⟨"com/example/guarded_expansion/guardedexpansion/XmlCharsIsNameStartCharPinLaw", "in", "(III)Z"⟩ : MethodName) method_2_code 3 (some .boolean) :: ws) ({ frames := 0, cells := 0, slots := 0, locals := 0 } : Room)) (fun a_ U => a_ = #[(.int p0), (.int p1), (.int p2)] ∧ Z.Warmed39 U.vm ∧ U.heap = h0) (fun _ _ _ _ _ => True) (fun _ U o U' => ∃ v L, o = .returned v ∧ Q_inr Z p0 p1 p2 h0 n0 v U'.heap L ∧ FrameEnd U o U' L ({ frames := 0, cells := 0, slots := 0, locals := 0 } : Room).cells ({ frames := 0, cells := 0, slots := 0, locals := 0 } : Room).slots) := by
  refine MetFree.of_bodySF (plainFor_of_name pn_0) hisR ?_
  intro p e s m args below meth c s₁ Bd hml0 hP hK
  obtain ⟨rfl, hZ, hh⟩ := hP
  have hx := Bd.exec
  have hby := Bd.bytes
  have hlk : meth.locks = false := Bd.notSynchronized
  have hml : c.maxLocals = 3 := hml0
  have hown : s.vm.findClass "com/example/guarded_expansion/guardedexpansion/XmlCharsIsNameStartCharPinLaw" = some m.cls := findClass_of_methodNamed Bd.named
  have hnm := (name_of_methodNamed Bd.named Bd.method).1
  have X0 : Stand p l e ({ frames := 0, cells := 0, slots := 0, locals := 0 } : Room) s m #[(.int p0), (.int p1), (.int p2)] below meth c s₁ [] 0 0 := Stand.of_body Bd
  have e0 : s₁.heap = h0 := by rw [← hh, Bd.state]; rfl
  have N0 := Fr.nil n0
  have J14 : ∀ (T : State), Stand p l e ({ frames := 0, cells := 0, slots := 0, locals := 0 } : Room) s m #[(.int p0), (.int p1), (.int p2)] below meth c T [] 0 0 → T.heap = h0 → f_inr p0 p1 p2 = f_inr_14 p0 p1 p2 → OGets p e below (OLeaves s (Q_inr Z p0 p1 p2 h0 n0 ) ({ frames := 0, cells := 0, slots := 0, locals := 0 } : Room).cells ({ frames := 0, cells := 0, slots := 0, locals := 0 } : Room).slots) (T.setTop (mkF m 14 #[.val (.int p0), .val (.int p1), .val (.int p2)] [])) := by
    intro T X eT hv'
    have hv : f_inr p0 p1 p2 = (0 : Int32) := hv'
    show OGets p e below _ (T.setTop (mkF m 14 #[.val (.int p0), .val (.int p1), .val (.int p2)] []))
    refine OGets.step (fun _ => XS.iconst X.here hx rfl (hb hby dm2_14)) ?_
    show OGets p e below _ (T.setTop (mkF m 15 #[.val (.int p0), .val (.int p1), .val (.int p2)] [(.int (0 : Int32))]))
    refine OGets.retN X hx hlk (t := .boolean) Bd.returns (by simp) (hb hby dm2_15) (Nat.le_of_ble_eq_true rfl) (Nat.le_of_ble_eq_true rfl) ?_
    exact ⟨congrArg (fun z => some (Value.int z)) hv.symm, rfl, eT⟩
  have hv0 : f_inr p0 p1 p2 = (if p0 < p1 then f_inr_14 p0 p1 p2 else (if p2 < p0 then f_inr_14 p0 p1 p2 else (1 : Int32))) := rfl
  show OGets p e below (OLeaves s (Q_inr Z p0 p1 p2 h0 n0 ) ({ frames := 0, cells := 0, slots := 0, locals := 0 } : Room).cells ({ frames := 0, cells := 0, slots := 0, locals := 0 } : Room).slots) _
  refine OGets.enter (ef_inr m p0 p1 p2) ?_
  show OGets p e below _ (s₁.setTop (mkF m 0 #[.val (.int p0), .val (.int p1), .val (.int p2)] []))
  refine OGets.step (fun _ => XS.iloadN X0.here hx rfl (hb hby dm2_0) rfl) ?_
  show OGets p e below _ (s₁.setTop (mkF m 1 #[.val (.int p0), .val (.int p1), .val (.int p2)] [(.int p0)]))
  refine OGets.step (fun _ => XS.iloadN X0.here hx rfl (hb hby dm2_1) rfl) ?_
  show OGets p e below _ (s₁.setTop (mkF m 2 #[.val (.int p0), .val (.int p1), .val (.int p2)] [(.int p1), (.int p0)]))
  by_cases hc2_1 : p0 < p1
  · refine OGets.step (fun _ => XS.icmpYes X0.here hx rfl (pc0 := 2) (pc' := 14) rfl (hb hby dm2_2) rfl (tlt hc2_1).1 (by decide) (by decide)) ?_
    have hv2 := hv0.trans (if_pos hc2_1)
    show OGets p e below _ (s₁.setTop (mkF m 14 #[.val (.int p0), .val (.int p1), .val (.int p2)] []))
    exact J14 s₁ X0 e0 hv2
  · refine OGets.step (fun _ => XS.icmpNo X0.here hx rfl (hb hby dm2_2) rfl (flt hc2_1).1) ?_
    have hv3 := hv0.trans (if_neg hc2_1)
    show OGets p e below _ (s₁.setTop (mkF m 5 #[.val (.int p0), .val (.int p1), .val (.int p2)] []))
    refine OGets.step (fun _ => XS.iloadN X0.here hx rfl (hb hby dm2_5) rfl) ?_
    show OGets p e below _ (s₁.setTop (mkF m 6 #[.val (.int p0), .val (.int p1), .val (.int p2)] [(.int p0)]))
    refine OGets.step (fun _ => XS.iloadN X0.here hx rfl (hb hby dm2_6) rfl) ?_
    show OGets p e below _ (s₁.setTop (mkF m 7 #[.val (.int p0), .val (.int p1), .val (.int p2)] [(.int p2), (.int p0)]))
    by_cases hc7_4 : p2 < p0
    · refine OGets.step (fun _ => XS.icmpYes X0.here hx rfl (pc0 := 7) (pc' := 14) rfl (hb hby dm2_7) rfl (tlt hc7_4).2.2.1 (by decide) (by decide)) ?_
      have hv5 := hv3.trans (if_pos hc7_4)
      show OGets p e below _ (s₁.setTop (mkF m 14 #[.val (.int p0), .val (.int p1), .val (.int p2)] []))
      exact J14 s₁ X0 e0 hv5
    · refine OGets.step (fun _ => XS.icmpNo X0.here hx rfl (hb hby dm2_7) rfl (flt hc7_4).2.2.1) ?_
      have hv6 := hv3.trans (if_neg hc7_4)
      show OGets p e below _ (s₁.setTop (mkF m 10 #[.val (.int p0), .val (.int p1), .val (.int p2)] []))
      refine OGets.step (fun _ => XS.iconst X0.here hx rfl (hb hby dm2_10)) ?_
      show OGets p e below _ (s₁.setTop (mkF m 11 #[.val (.int p0), .val (.int p1), .val (.int p2)] [(.int (1 : Int32))]))
      refine OGets.step (fun _ => XS.goto X0.here hx rfl (pc0 := 11) (pc' := 15) rfl (hb hby dm2_11) (by decide) (by decide)) ?_
      show OGets p e below _ (s₁.setTop (mkF m 15 #[.val (.int p0), .val (.int p1), .val (.int p2)] [(.int (1 : Int32))]))
      refine OGets.retN X0 hx hlk (t := .boolean) Bd.returns (by simp) (hb hby dm2_15) (Nat.le_of_ble_eq_true rfl) (Nat.le_of_ble_eq_true rfl) ?_
      exact ⟨congrArg (fun z => some (Value.int z)) hv6.symm, rfl, e0⟩
def f_inGap (p0 : Int32) : Int32 := (if p0 < (58 : Int32) then (1 : Int32) else (if (f_inr p0 (59 : Int32) (64 : Int32)) = (0 : Int32) then (if (f_inr p0 (91 : Int32) (94 : Int32)) = (0 : Int32) then (if p0 = (96 : Int32) then (1 : Int32) else (if (f_inr p0 (123 : Int32) (191 : Int32)) = (0 : Int32) then (if p0 = (215 : Int32) then (1 : Int32) else (if p0 = (247 : Int32) then (1 : Int32) else (if (f_inr p0 (768 : Int32) (879 : Int32)) = (0 : Int32) then (if p0 = (894 : Int32) then (1 : Int32) else (if (f_inr p0 (8192 : Int32) (8203 : Int32)) = (0 : Int32) then (if (f_inr p0 (8206 : Int32) (8303 : Int32)) = (0 : Int32) then (if (f_inr p0 (8592 : Int32) (11263 : Int32)) = (0 : Int32) then (if (f_inr p0 (12272 : Int32) (12288 : Int32)) = (0 : Int32) then (if (f_inr p0 (55296 : Int32) (63743 : Int32)) = (0 : Int32) then (if (f_inr p0 (64976 : Int32) (65007 : Int32)) = (0 : Int32) then (if (f_inr p0 (65534 : Int32) (65535 : Int32)) = (0 : Int32) then (if (983039 : Int32) < p0 then (1 : Int32) else (0 : Int32)) else (1 : Int32)) else (1 : Int32)) else (1 : Int32)) else (1 : Int32)) else (1 : Int32)) else (1 : Int32)) else (1 : Int32))) else (1 : Int32)))) else (1 : Int32))) else (1 : Int32)) else (1 : Int32)))
theorem dm3_0 : decode method_3_code 0 = .ok (.iload_n 0, 1) := by decide +kernel
theorem dm3_1 : decode method_3_code 1 = .ok (.bipush 58, 2) := by decide +kernel
theorem dm3_3 : decode method_3_code 3 = .ok (.if_icmp .ge 5, 3) := by decide +kernel
theorem dm3_6 : decode method_3_code 6 = .ok (.iconst 1, 1) := by decide +kernel
theorem dm3_7 : decode method_3_code 7 = .ok (.ireturn, 1) := by decide +kernel
theorem dm3_8 : decode method_3_code 8 = .ok (.iload_n 0, 1) := by decide +kernel
theorem dm3_9 : decode method_3_code 9 = .ok (.bipush 59, 2) := by decide +kernel
theorem dm3_11 : decode method_3_code 11 = .ok (.bipush 64, 2) := by decide +kernel
theorem dm3_13 : decode method_3_code 13 = .ok (.invokestatic 7, 3) := by decide +kernel
theorem pd_1 : parseMethodDescriptor "(III)Z" = some ⟨[.int, .int, .int], some .boolean⟩ := by decide +kernel
theorem dm3_16 : decode method_3_code 16 = .ok (.ifCond .eq 5, 3) := by decide +kernel
theorem dm3_21 : decode method_3_code 21 = .ok (.iload_n 0, 1) := by decide +kernel
theorem dm3_22 : decode method_3_code 22 = .ok (.bipush 91, 2) := by decide +kernel
theorem dm3_24 : decode method_3_code 24 = .ok (.bipush 94, 2) := by decide +kernel
theorem dm3_26 : decode method_3_code 26 = .ok (.invokestatic 7, 3) := by decide +kernel
theorem dm3_29 : decode method_3_code 29 = .ok (.ifCond .eq 5, 3) := by decide +kernel
theorem dm3_34 : decode method_3_code 34 = .ok (.iload_n 0, 1) := by decide +kernel
theorem dm3_35 : decode method_3_code 35 = .ok (.bipush 96, 2) := by decide +kernel
theorem dm3_37 : decode method_3_code 37 = .ok (.if_icmp .ne 5, 3) := by decide +kernel
theorem dm3_40 : decode method_3_code 40 = .ok (.iconst 1, 1) := by decide +kernel
theorem dm3_41 : decode method_3_code 41 = .ok (.ireturn, 1) := by decide +kernel
theorem dm3_42 : decode method_3_code 42 = .ok (.iload_n 0, 1) := by decide +kernel
theorem dm3_43 : decode method_3_code 43 = .ok (.bipush 123, 2) := by decide +kernel
theorem dm3_45 : decode method_3_code 45 = .ok (.sipush 191, 3) := by decide +kernel
theorem dm3_48 : decode method_3_code 48 = .ok (.invokestatic 7, 3) := by decide +kernel
theorem dm3_51 : decode method_3_code 51 = .ok (.ifCond .eq 5, 3) := by decide +kernel
theorem dm3_56 : decode method_3_code 56 = .ok (.iload_n 0, 1) := by decide +kernel
theorem dm3_57 : decode method_3_code 57 = .ok (.sipush 215, 3) := by decide +kernel
theorem dm3_60 : decode method_3_code 60 = .ok (.if_icmp .ne 5, 3) := by decide +kernel
theorem dm3_63 : decode method_3_code 63 = .ok (.iconst 1, 1) := by decide +kernel
theorem dm3_64 : decode method_3_code 64 = .ok (.ireturn, 1) := by decide +kernel
theorem dm3_65 : decode method_3_code 65 = .ok (.iload_n 0, 1) := by decide +kernel
theorem dm3_66 : decode method_3_code 66 = .ok (.sipush 247, 3) := by decide +kernel
theorem dm3_69 : decode method_3_code 69 = .ok (.if_icmp .ne 5, 3) := by decide +kernel
theorem dm3_72 : decode method_3_code 72 = .ok (.iconst 1, 1) := by decide +kernel
theorem dm3_73 : decode method_3_code 73 = .ok (.ireturn, 1) := by decide +kernel
theorem dm3_74 : decode method_3_code 74 = .ok (.iload_n 0, 1) := by decide +kernel
theorem dm3_75 : decode method_3_code 75 = .ok (.sipush 768, 3) := by decide +kernel
theorem dm3_78 : decode method_3_code 78 = .ok (.sipush 879, 3) := by decide +kernel
theorem dm3_81 : decode method_3_code 81 = .ok (.invokestatic 7, 3) := by decide +kernel
theorem dm3_84 : decode method_3_code 84 = .ok (.ifCond .eq 5, 3) := by decide +kernel
theorem dm3_89 : decode method_3_code 89 = .ok (.iload_n 0, 1) := by decide +kernel
theorem dm3_90 : decode method_3_code 90 = .ok (.sipush 894, 3) := by decide +kernel
theorem dm3_93 : decode method_3_code 93 = .ok (.if_icmp .ne 5, 3) := by decide +kernel
theorem dm3_96 : decode method_3_code 96 = .ok (.iconst 1, 1) := by decide +kernel
theorem dm3_97 : decode method_3_code 97 = .ok (.ireturn, 1) := by decide +kernel
theorem dm3_98 : decode method_3_code 98 = .ok (.iload_n 0, 1) := by decide +kernel
theorem dm3_99 : decode method_3_code 99 = .ok (.sipush 8192, 3) := by decide +kernel
theorem dm3_102 : decode method_3_code 102 = .ok (.sipush 8203, 3) := by decide +kernel
theorem dm3_105 : decode method_3_code 105 = .ok (.invokestatic 7, 3) := by decide +kernel
theorem dm3_108 : decode method_3_code 108 = .ok (.ifCond .eq 5, 3) := by decide +kernel
theorem dm3_113 : decode method_3_code 113 = .ok (.iload_n 0, 1) := by decide +kernel
theorem dm3_114 : decode method_3_code 114 = .ok (.sipush 8206, 3) := by decide +kernel
theorem dm3_117 : decode method_3_code 117 = .ok (.sipush 8303, 3) := by decide +kernel
theorem dm3_120 : decode method_3_code 120 = .ok (.invokestatic 7, 3) := by decide +kernel
theorem dm3_123 : decode method_3_code 123 = .ok (.ifCond .eq 5, 3) := by decide +kernel
theorem dm3_128 : decode method_3_code 128 = .ok (.iload_n 0, 1) := by decide +kernel
theorem dm3_129 : decode method_3_code 129 = .ok (.sipush 8592, 3) := by decide +kernel
theorem dm3_132 : decode method_3_code 132 = .ok (.sipush 11263, 3) := by decide +kernel
theorem dm3_135 : decode method_3_code 135 = .ok (.invokestatic 7, 3) := by decide +kernel
theorem dm3_138 : decode method_3_code 138 = .ok (.ifCond .eq 5, 3) := by decide +kernel
theorem dm3_143 : decode method_3_code 143 = .ok (.iload_n 0, 1) := by decide +kernel
theorem dm3_144 : decode method_3_code 144 = .ok (.sipush 12272, 3) := by decide +kernel
theorem dm3_147 : decode method_3_code 147 = .ok (.sipush 12288, 3) := by decide +kernel
theorem dm3_150 : decode method_3_code 150 = .ok (.invokestatic 7, 3) := by decide +kernel
theorem dm3_153 : decode method_3_code 153 = .ok (.ifCond .eq 5, 3) := by decide +kernel
theorem dm3_158 : decode method_3_code 158 = .ok (.iload_n 0, 1) := by decide +kernel
theorem dm3_159 : decode method_3_code 159 = .ok (.ldc 13, 2) := by decide +kernel
theorem dm3_161 : decode method_3_code 161 = .ok (.ldc 14, 2) := by decide +kernel
theorem dm3_163 : decode method_3_code 163 = .ok (.invokestatic 7, 3) := by decide +kernel
theorem dm3_166 : decode method_3_code 166 = .ok (.ifCond .eq 5, 3) := by decide +kernel
theorem dm3_171 : decode method_3_code 171 = .ok (.iload_n 0, 1) := by decide +kernel
theorem dm3_172 : decode method_3_code 172 = .ok (.ldc 15, 2) := by decide +kernel
theorem dm3_174 : decode method_3_code 174 = .ok (.ldc 16, 2) := by decide +kernel
theorem dm3_176 : decode method_3_code 176 = .ok (.invokestatic 7, 3) := by decide +kernel
theorem dm3_179 : decode method_3_code 179 = .ok (.ifCond .eq 5, 3) := by decide +kernel
theorem dm3_184 : decode method_3_code 184 = .ok (.iload_n 0, 1) := by decide +kernel
theorem dm3_185 : decode method_3_code 185 = .ok (.ldc 17, 2) := by decide +kernel
theorem dm3_187 : decode method_3_code 187 = .ok (.ldc 18, 2) := by decide +kernel
theorem dm3_189 : decode method_3_code 189 = .ok (.invokestatic 7, 3) := by decide +kernel
theorem dm3_192 : decode method_3_code 192 = .ok (.ifCond .eq 5, 3) := by decide +kernel
theorem dm3_197 : decode method_3_code 197 = .ok (.iload_n 0, 1) := by decide +kernel
theorem dm3_198 : decode method_3_code 198 = .ok (.ldc 19, 2) := by decide +kernel
theorem dm3_200 : decode method_3_code 200 = .ok (.if_icmp .le 5, 3) := by decide +kernel
theorem dm3_203 : decode method_3_code 203 = .ok (.iconst 1, 1) := by decide +kernel
theorem dm3_204 : decode method_3_code 204 = .ok (.ireturn, 1) := by decide +kernel
theorem dm3_205 : decode method_3_code 205 = .ok (.iconst 0, 1) := by decide +kernel
theorem dm3_206 : decode method_3_code 206 = .ok (.ireturn, 1) := by decide +kernel
theorem dm3_195 : decode method_3_code 195 = .ok (.iconst 1, 1) := by decide +kernel
theorem dm3_196 : decode method_3_code 196 = .ok (.ireturn, 1) := by decide +kernel
theorem dm3_182 : decode method_3_code 182 = .ok (.iconst 1, 1) := by decide +kernel
theorem dm3_183 : decode method_3_code 183 = .ok (.ireturn, 1) := by decide +kernel
theorem dm3_169 : decode method_3_code 169 = .ok (.iconst 1, 1) := by decide +kernel
theorem dm3_170 : decode method_3_code 170 = .ok (.ireturn, 1) := by decide +kernel
theorem dm3_156 : decode method_3_code 156 = .ok (.iconst 1, 1) := by decide +kernel
theorem dm3_157 : decode method_3_code 157 = .ok (.ireturn, 1) := by decide +kernel
theorem dm3_141 : decode method_3_code 141 = .ok (.iconst 1, 1) := by decide +kernel
theorem dm3_142 : decode method_3_code 142 = .ok (.ireturn, 1) := by decide +kernel
theorem dm3_126 : decode method_3_code 126 = .ok (.iconst 1, 1) := by decide +kernel
theorem dm3_127 : decode method_3_code 127 = .ok (.ireturn, 1) := by decide +kernel
theorem dm3_111 : decode method_3_code 111 = .ok (.iconst 1, 1) := by decide +kernel
theorem dm3_112 : decode method_3_code 112 = .ok (.ireturn, 1) := by decide +kernel
theorem dm3_87 : decode method_3_code 87 = .ok (.iconst 1, 1) := by decide +kernel
theorem dm3_88 : decode method_3_code 88 = .ok (.ireturn, 1) := by decide +kernel
theorem dm3_54 : decode method_3_code 54 = .ok (.iconst 1, 1) := by decide +kernel
theorem dm3_55 : decode method_3_code 55 = .ok (.ireturn, 1) := by decide +kernel
theorem dm3_32 : decode method_3_code 32 = .ok (.iconst 1, 1) := by decide +kernel
theorem dm3_33 : decode method_3_code 33 = .ok (.ireturn, 1) := by decide +kernel
theorem dm3_19 : decode method_3_code 19 = .ok (.iconst 1, 1) := by decide +kernel
theorem dm3_20 : decode method_3_code 20 = .ok (.ireturn, 1) := by decide +kernel
theorem ef_inGap (m : MethodId) (x0 : Int32) : entryFrame m #[(.int x0)] 1 = mkF m 0 #[.val (.int x0)] [] := by first | (simp [entryFrame, mkF, argsToLocals, Value.category]; done) | rfl
def Q_inGap (Z : State) (p0 : Int32) (h0 : Heap) (n0 : Nat) (v : Option Value) (h : Heap) (L : List Loc) : Prop := v = some (.int (f_inGap p0)) ∧ L = [] ∧ h = h0
set_option maxRecDepth 65536 in
set_option maxHeartbeats 40000000 in
theorem rm_inGap (l : Launch) (Z : State) (a0 : Array Value) (hw : ∀ d ∈ tables_1, d.before a0 Z = true) (ws : List Jvm.Cond) (p0 : Int32) (h0 : Heap) (n0 : Nat) (Z0 : n0 ≤ h0.size) :
    MetFree l (⟨"com/example/guarded_expansion/guardedexpansion/XmlCharsIsNameStartCharPinLaw", "inGap", "(I)Z"⟩ : MethodName) (head1 (Jvm.Cond.code (⟨"com/example/guarded_expansion/guardedexpansion/XmlCharsIsNameStartCharPinLaw", "inGap", "(I)Z"⟩ : MethodName) method_3_code 1 (some .boolean) :: ws) ({ frames := 1, cells := 0, slots := 0, locals := 14 } : Room)) (fun a_ U => a_ = #[(.int p0)] ∧ Z.Warmed39 U.vm ∧ U.heap = h0) (fun _ _ _ _ _ => True) (fun _ U o U' => ∃ v L, o = .returned v ∧ Q_inGap Z p0 h0 n0 v U'.heap L ∧ FrameEnd U o U' L ({ frames := 1, cells := 0, slots := 0, locals := 14 } : Room).cells ({ frames := 1, cells := 0, slots := 0, locals := 14 } : Room).slots) := by
  refine MetFree.of_bodySF (plainFor_of_name pn_0) hisR ?_
  intro p e s m args below meth c s₁ Bd hml0 hP hK
  obtain ⟨rfl, hZ, hh⟩ := hP
  have hx := Bd.exec
  have hby := Bd.bytes
  have hlk : meth.locks = false := Bd.notSynchronized
  have hml : c.maxLocals = 1 := hml0
  have hown : s.vm.findClass "com/example/guarded_expansion/guardedexpansion/XmlCharsIsNameStartCharPinLaw" = some m.cls := findClass_of_methodNamed Bd.named
  have hnm := (name_of_methodNamed Bd.named Bd.method).1
  have X0 : Stand p l e ({ frames := 1, cells := 0, slots := 0, locals := 14 } : Room) s m #[(.int p0)] below meth c s₁ [] 0 0 := Stand.of_body Bd
  have e0 : s₁.heap = h0 := by rw [← hh, Bd.state]; rfl
  have N0 := Fr.nil n0
  have hv0 : f_inGap p0 = (if p0 < (58 : Int32) then (1 : Int32) else (if (f_inr p0 (59 : Int32) (64 : Int32)) = (0 : Int32) then (if (f_inr p0 (91 : Int32) (94 : Int32)) = (0 : Int32) then (if p0 = (96 : Int32) then (1 : Int32) else (if (f_inr p0 (123 : Int32) (191 : Int32)) = (0 : Int32) then (if p0 = (215 : Int32) then (1 : Int32) else (if p0 = (247 : Int32) then (1 : Int32) else (if (f_inr p0 (768 : Int32) (879 : Int32)) = (0 : Int32) then (if p0 = (894 : Int32) then (1 : Int32) else (if (f_inr p0 (8192 : Int32) (8203 : Int32)) = (0 : Int32) then (if (f_inr p0 (8206 : Int32) (8303 : Int32)) = (0 : Int32) then (if (f_inr p0 (8592 : Int32) (11263 : Int32)) = (0 : Int32) then (if (f_inr p0 (12272 : Int32) (12288 : Int32)) = (0 : Int32) then (if (f_inr p0 (55296 : Int32) (63743 : Int32)) = (0 : Int32) then (if (f_inr p0 (64976 : Int32) (65007 : Int32)) = (0 : Int32) then (if (f_inr p0 (65534 : Int32) (65535 : Int32)) = (0 : Int32) then (if (983039 : Int32) < p0 then (1 : Int32) else (0 : Int32)) else (1 : Int32)) else (1 : Int32)) else (1 : Int32)) else (1 : Int32)) else (1 : Int32)) else (1 : Int32)) else (1 : Int32))) else (1 : Int32)))) else (1 : Int32))) else (1 : Int32)) else (1 : Int32))) := rfl
  show OGets p e below (OLeaves s (Q_inGap Z p0 h0 n0 ) ({ frames := 1, cells := 0, slots := 0, locals := 14 } : Room).cells ({ frames := 1, cells := 0, slots := 0, locals := 14 } : Room).slots) _
  refine OGets.enter (ef_inGap m p0) ?_
  show OGets p e below _ (s₁.setTop (mkF m 0 #[.val (.int p0)] []))
  refine OGets.step (fun _ => XS.iloadN X0.here hx rfl (hb hby dm3_0) rfl) ?_
  show OGets p e below _ (s₁.setTop (mkF m 1 #[.val (.int p0)] [(.int p0)]))
  refine OGets.step (fun _ => XS.bipush X0.here hx rfl (hb hby dm3_1)) ?_
  show OGets p e below _ (s₁.setTop (mkF m 3 #[.val (.int p0)] [(.int (58 : Int32)), (.int p0)]))
  by_cases hc3_7 : p0 < (58 : Int32)
  · refine OGets.step (fun _ => XS.icmpNo X0.here hx rfl (hb hby dm3_3) rfl (tlt hc3_7).2.1) ?_
    have hv8 := hv0.trans (if_pos hc3_7)
    show OGets p e below _ (s₁.setTop (mkF m 6 #[.val (.int p0)] []))
    refine OGets.step (fun _ => XS.iconst X0.here hx rfl (hb hby dm3_6)) ?_
    show OGets p e below _ (s₁.setTop (mkF m 7 #[.val (.int p0)] [(.int (1 : Int32))]))
    refine OGets.retN X0 hx hlk (t := .boolean) Bd.returns (by simp) (hb hby dm3_7) (Nat.le_of_ble_eq_true rfl) (Nat.le_of_ble_eq_true rfl) ?_
    exact ⟨congrArg (fun z => some (Value.int z)) hv8.symm, rfl, e0⟩
  · refine OGets.step (fun _ => XS.icmpYes X0.here hx rfl (pc0 := 3) (pc' := 8) rfl (hb hby dm3_3) rfl (flt hc3_7).2.1 (by decide) (by decide)) ?_
    have hv9 := hv0.trans (if_neg hc3_7)
    show OGets p e below _ (s₁.setTop (mkF m 8 #[.val (.int p0)] []))
    refine OGets.step (fun _ => XS.iloadN X0.here hx rfl (hb hby dm3_8) rfl) ?_
    show OGets p e below _ (s₁.setTop (mkF m 9 #[.val (.int p0)] [(.int p0)]))
    refine OGets.step (fun _ => XS.bipush X0.here hx rfl (hb hby dm3_9)) ?_
    show OGets p e below _ (s₁.setTop (mkF m 11 #[.val (.int p0)] [(.int (59 : Int32)), (.int p0)]))
    refine OGets.step (fun _ => XS.bipush X0.here hx rfl (hb hby dm3_11)) ?_
    show OGets p e below _ (s₁.setTop (mkF m 13 #[.val (.int p0)] [(.int (64 : Int32)), (.int (59 : Int32)), (.int p0)]))
    obtain ⟨_, _, ⟨T10, L10, k10, n10⟩, -, X10, ⟨Lc10, hQ10, l10, y10, z10⟩, st10⟩ := Jvm.LawKit.callS X0 hx (y := (⟨"com/example/guarded_expansion/guardedexpansion/XmlCharsIsNameStartCharPinLaw", "in", "(III)Z"⟩ : MethodName)) hown (mvT hZ (hw _ (List.mem_of_getElem? (i := 13) rfl))) (mvT hZ (hw _ (List.mem_of_getElem? (i := 14) rfl))) (mvT hZ (hw _ (List.mem_of_getElem? (i := 11) rfl))) (mvT hZ (hw _ (List.mem_of_getElem? (i := 15) rfl))) (by decide) (backOf (W := 0) (rm_inr l Z a0 hw [] p0 (59 : Int32) (64 : Int32) h0 n0  Z0 ) hZ (hw _ (List.mem_of_getElem? (i := 15) rfl)) (hw _ (List.mem_of_getElem? (i := 11) rfl)) (by decide) (by decide)) (g := (mkF m 13 #[.val (.int p0)] [(.int (64 : Int32)), (.int (59 : Int32)), (.int p0)])) rfl (by rw [hml]; rfl) (argsL := [(.int p0), (.int (59 : Int32)), (.int (64 : Int32))]) (rest := []) (lenOf pd_1 rfl) rfl (by show 2 * 0 + _ ≤ _; exact Nat.le_of_eq rfl) (hb hby dm3_13) (fun _ _ => ⟨rfl, e0, Nat.le_of_ble_eq_true rfl, Nat.le_of_ble_eq_true rfl⟩)
    dsimp only [Pt.U, Pt.locs, Pt.cells, Pt.slots] at X10 l10 y10 z10 st10 hQ10
    rw [l10, y10, z10] at X10
    obtain ⟨rfl, rfl, e10⟩ := hQ10
    have X10 : Stand p l e _ s m #[(.int p0)] below meth c T10 [] 0 0 := X10
    refine OGets.step st10 ?_
    show OGets p e below _ (T10.setTop (mkF m 16 #[.val (.int p0)] [(.int (f_inr p0 (59 : Int32) (64 : Int32)))]))
    by_cases hc16_11 : (f_inr p0 (59 : Int32) (64 : Int32)) = (0 : Int32)
    · refine OGets.step (fun _ => XS.ifYes X10.here hx rfl (pc0 := 16) (pc' := 21) rfl (hb hby dm3_16) rfl ((if0 _ _).trans (teq hc16_11).1) (by decide) (by decide)) ?_
      have hv12 := hv9.trans (if_pos hc16_11)
      show OGets p e below _ (T10.setTop (mkF m 21 #[.val (.int p0)] []))
      refine OGets.step (fun _ => XS.iloadN X10.here hx rfl (hb hby dm3_21) rfl) ?_
      show OGets p e below _ (T10.setTop (mkF m 22 #[.val (.int p0)] [(.int p0)]))
      refine OGets.step (fun _ => XS.bipush X10.here hx rfl (hb hby dm3_22)) ?_
      show OGets p e below _ (T10.setTop (mkF m 24 #[.val (.int p0)] [(.int (91 : Int32)), (.int p0)]))
      refine OGets.step (fun _ => XS.bipush X10.here hx rfl (hb hby dm3_24)) ?_
      show OGets p e below _ (T10.setTop (mkF m 26 #[.val (.int p0)] [(.int (94 : Int32)), (.int (91 : Int32)), (.int p0)]))
      obtain ⟨_, _, ⟨T13, L13, k13, n13⟩, -, X13, ⟨Lc13, hQ13, l13, y13, z13⟩, st13⟩ := Jvm.LawKit.callS X10 hx (y := (⟨"com/example/guarded_expansion/guardedexpansion/XmlCharsIsNameStartCharPinLaw", "in", "(III)Z"⟩ : MethodName)) hown (mvT hZ (hw _ (List.mem_of_getElem? (i := 13) rfl))) (mvT hZ (hw _ (List.mem_of_getElem? (i := 14) rfl))) (mvT hZ (hw _ (List.mem_of_getElem? (i := 11) rfl))) (mvT hZ (hw _ (List.mem_of_getElem? (i := 15) rfl))) (by decide) (backOf (W := 0) (rm_inr l Z a0 hw [] p0 (91 : Int32) (94 : Int32) h0 n0  Z0 ) hZ (hw _ (List.mem_of_getElem? (i := 15) rfl)) (hw _ (List.mem_of_getElem? (i := 11) rfl)) (by decide) (by decide)) (g := (mkF m 26 #[.val (.int p0)] [(.int (94 : Int32)), (.int (91 : Int32)), (.int p0)])) rfl (by rw [hml]; rfl) (argsL := [(.int p0), (.int (91 : Int32)), (.int (94 : Int32))]) (rest := []) (lenOf pd_1 rfl) rfl (by show 2 * 0 + _ ≤ _; exact Nat.le_of_eq rfl) (hb hby dm3_26) (fun _ _ => ⟨rfl, e10, Nat.le_of_ble_eq_true rfl, Nat.le_of_ble_eq_true rfl⟩)
      dsimp only [Pt.U, Pt.locs, Pt.cells, Pt.slots] at X13 l13 y13 z13 st13 hQ13
      rw [l13, y13, z13] at X13
      obtain ⟨rfl, rfl, e13⟩ := hQ13
      have X13 : Stand p l e _ s m #[(.int p0)] below meth c T13 [] 0 0 := X13
      refine OGets.step st13 ?_
      show OGets p e below _ (T13.setTop (mkF m 29 #[.val (.int p0)] [(.int (f_inr p0 (91 : Int32) (94 : Int32)))]))
      by_cases hc29_14 : (f_inr p0 (91 : Int32) (94 : Int32)) = (0 : Int32)
      · refine OGets.step (fun _ => XS.ifYes X13.here hx rfl (pc0 := 29) (pc' := 34) rfl (hb hby dm3_29) rfl ((if0 _ _).trans (teq hc29_14).1) (by decide) (by decide)) ?_
        have hv15 := hv12.trans (if_pos hc29_14)
        show OGets p e below _ (T13.setTop (mkF m 34 #[.val (.int p0)] []))
        refine OGets.step (fun _ => XS.iloadN X13.here hx rfl (hb hby dm3_34) rfl) ?_
        show OGets p e below _ (T13.setTop (mkF m 35 #[.val (.int p0)] [(.int p0)]))
        refine OGets.step (fun _ => XS.bipush X13.here hx rfl (hb hby dm3_35)) ?_
        show OGets p e below _ (T13.setTop (mkF m 37 #[.val (.int p0)] [(.int (96 : Int32)), (.int p0)]))
        by_cases hc37_16 : p0 = (96 : Int32)
        · refine OGets.step (fun _ => XS.icmpNo X13.here hx rfl (hb hby dm3_37) rfl (teq hc37_16).2) ?_
          have hv17 := hv15.trans (if_pos hc37_16)
          show OGets p e below _ (T13.setTop (mkF m 40 #[.val (.int p0)] []))
          refine OGets.step (fun _ => XS.iconst X13.here hx rfl (hb hby dm3_40)) ?_
          show OGets p e below _ (T13.setTop (mkF m 41 #[.val (.int p0)] [(.int (1 : Int32))]))
          refine OGets.retN X13 hx hlk (t := .boolean) Bd.returns (by simp) (hb hby dm3_41) (Nat.le_of_ble_eq_true rfl) (Nat.le_of_ble_eq_true rfl) ?_
          exact ⟨congrArg (fun z => some (Value.int z)) hv17.symm, rfl, e13⟩
        · refine OGets.step (fun _ => XS.icmpYes X13.here hx rfl (pc0 := 37) (pc' := 42) rfl (hb hby dm3_37) rfl (feq hc37_16).2 (by decide) (by decide)) ?_
          have hv18 := hv15.trans (if_neg hc37_16)
          show OGets p e below _ (T13.setTop (mkF m 42 #[.val (.int p0)] []))
          refine OGets.step (fun _ => XS.iloadN X13.here hx rfl (hb hby dm3_42) rfl) ?_
          show OGets p e below _ (T13.setTop (mkF m 43 #[.val (.int p0)] [(.int p0)]))
          refine OGets.step (fun _ => XS.bipush X13.here hx rfl (hb hby dm3_43)) ?_
          show OGets p e below _ (T13.setTop (mkF m 45 #[.val (.int p0)] [(.int (123 : Int32)), (.int p0)]))
          refine OGets.step (fun _ => XS.sipush X13.here hx rfl (hb hby dm3_45)) ?_
          show OGets p e below _ (T13.setTop (mkF m 48 #[.val (.int p0)] [(.int (191 : Int32)), (.int (123 : Int32)), (.int p0)]))
          obtain ⟨_, _, ⟨T19, L19, k19, n19⟩, -, X19, ⟨Lc19, hQ19, l19, y19, z19⟩, st19⟩ := Jvm.LawKit.callS X13 hx (y := (⟨"com/example/guarded_expansion/guardedexpansion/XmlCharsIsNameStartCharPinLaw", "in", "(III)Z"⟩ : MethodName)) hown (mvT hZ (hw _ (List.mem_of_getElem? (i := 13) rfl))) (mvT hZ (hw _ (List.mem_of_getElem? (i := 14) rfl))) (mvT hZ (hw _ (List.mem_of_getElem? (i := 11) rfl))) (mvT hZ (hw _ (List.mem_of_getElem? (i := 15) rfl))) (by decide) (backOf (W := 0) (rm_inr l Z a0 hw [] p0 (123 : Int32) (191 : Int32) h0 n0  Z0 ) hZ (hw _ (List.mem_of_getElem? (i := 15) rfl)) (hw _ (List.mem_of_getElem? (i := 11) rfl)) (by decide) (by decide)) (g := (mkF m 48 #[.val (.int p0)] [(.int (191 : Int32)), (.int (123 : Int32)), (.int p0)])) rfl (by rw [hml]; rfl) (argsL := [(.int p0), (.int (123 : Int32)), (.int (191 : Int32))]) (rest := []) (lenOf pd_1 rfl) rfl (by show 2 * 0 + _ ≤ _; exact Nat.le_of_eq rfl) (hb hby dm3_48) (fun _ _ => ⟨rfl, e13, Nat.le_of_ble_eq_true rfl, Nat.le_of_ble_eq_true rfl⟩)
          dsimp only [Pt.U, Pt.locs, Pt.cells, Pt.slots] at X19 l19 y19 z19 st19 hQ19
          rw [l19, y19, z19] at X19
          obtain ⟨rfl, rfl, e19⟩ := hQ19
          have X19 : Stand p l e _ s m #[(.int p0)] below meth c T19 [] 0 0 := X19
          refine OGets.step st19 ?_
          show OGets p e below _ (T19.setTop (mkF m 51 #[.val (.int p0)] [(.int (f_inr p0 (123 : Int32) (191 : Int32)))]))
          by_cases hc51_20 : (f_inr p0 (123 : Int32) (191 : Int32)) = (0 : Int32)
          · refine OGets.step (fun _ => XS.ifYes X19.here hx rfl (pc0 := 51) (pc' := 56) rfl (hb hby dm3_51) rfl ((if0 _ _).trans (teq hc51_20).1) (by decide) (by decide)) ?_
            have hv21 := hv18.trans (if_pos hc51_20)
            show OGets p e below _ (T19.setTop (mkF m 56 #[.val (.int p0)] []))
            refine OGets.step (fun _ => XS.iloadN X19.here hx rfl (hb hby dm3_56) rfl) ?_
            show OGets p e below _ (T19.setTop (mkF m 57 #[.val (.int p0)] [(.int p0)]))
            refine OGets.step (fun _ => XS.sipush X19.here hx rfl (hb hby dm3_57)) ?_
            show OGets p e below _ (T19.setTop (mkF m 60 #[.val (.int p0)] [(.int (215 : Int32)), (.int p0)]))
            by_cases hc60_22 : p0 = (215 : Int32)
            · refine OGets.step (fun _ => XS.icmpNo X19.here hx rfl (hb hby dm3_60) rfl (teq hc60_22).2) ?_
              have hv23 := hv21.trans (if_pos hc60_22)
              show OGets p e below _ (T19.setTop (mkF m 63 #[.val (.int p0)] []))
              refine OGets.step (fun _ => XS.iconst X19.here hx rfl (hb hby dm3_63)) ?_
              show OGets p e below _ (T19.setTop (mkF m 64 #[.val (.int p0)] [(.int (1 : Int32))]))
              refine OGets.retN X19 hx hlk (t := .boolean) Bd.returns (by simp) (hb hby dm3_64) (Nat.le_of_ble_eq_true rfl) (Nat.le_of_ble_eq_true rfl) ?_
              exact ⟨congrArg (fun z => some (Value.int z)) hv23.symm, rfl, e19⟩
            · refine OGets.step (fun _ => XS.icmpYes X19.here hx rfl (pc0 := 60) (pc' := 65) rfl (hb hby dm3_60) rfl (feq hc60_22).2 (by decide) (by decide)) ?_
              have hv24 := hv21.trans (if_neg hc60_22)
              show OGets p e below _ (T19.setTop (mkF m 65 #[.val (.int p0)] []))
              refine OGets.step (fun _ => XS.iloadN X19.here hx rfl (hb hby dm3_65) rfl) ?_
              show OGets p e below _ (T19.setTop (mkF m 66 #[.val (.int p0)] [(.int p0)]))
              refine OGets.step (fun _ => XS.sipush X19.here hx rfl (hb hby dm3_66)) ?_
              show OGets p e below _ (T19.setTop (mkF m 69 #[.val (.int p0)] [(.int (247 : Int32)), (.int p0)]))
              by_cases hc69_25 : p0 = (247 : Int32)
              · refine OGets.step (fun _ => XS.icmpNo X19.here hx rfl (hb hby dm3_69) rfl (teq hc69_25).2) ?_
                have hv26 := hv24.trans (if_pos hc69_25)
                show OGets p e below _ (T19.setTop (mkF m 72 #[.val (.int p0)] []))
                refine OGets.step (fun _ => XS.iconst X19.here hx rfl (hb hby dm3_72)) ?_
                show OGets p e below _ (T19.setTop (mkF m 73 #[.val (.int p0)] [(.int (1 : Int32))]))
                refine OGets.retN X19 hx hlk (t := .boolean) Bd.returns (by simp) (hb hby dm3_73) (Nat.le_of_ble_eq_true rfl) (Nat.le_of_ble_eq_true rfl) ?_
                exact ⟨congrArg (fun z => some (Value.int z)) hv26.symm, rfl, e19⟩
              · refine OGets.step (fun _ => XS.icmpYes X19.here hx rfl (pc0 := 69) (pc' := 74) rfl (hb hby dm3_69) rfl (feq hc69_25).2 (by decide) (by decide)) ?_
                have hv27 := hv24.trans (if_neg hc69_25)
                show OGets p e below _ (T19.setTop (mkF m 74 #[.val (.int p0)] []))
                refine OGets.step (fun _ => XS.iloadN X19.here hx rfl (hb hby dm3_74) rfl) ?_
                show OGets p e below _ (T19.setTop (mkF m 75 #[.val (.int p0)] [(.int p0)]))
                refine OGets.step (fun _ => XS.sipush X19.here hx rfl (hb hby dm3_75)) ?_
                show OGets p e below _ (T19.setTop (mkF m 78 #[.val (.int p0)] [(.int (768 : Int32)), (.int p0)]))
                refine OGets.step (fun _ => XS.sipush X19.here hx rfl (hb hby dm3_78)) ?_
                show OGets p e below _ (T19.setTop (mkF m 81 #[.val (.int p0)] [(.int (879 : Int32)), (.int (768 : Int32)), (.int p0)]))
                obtain ⟨_, _, ⟨T28, L28, k28, n28⟩, -, X28, ⟨Lc28, hQ28, l28, y28, z28⟩, st28⟩ := Jvm.LawKit.callS X19 hx (y := (⟨"com/example/guarded_expansion/guardedexpansion/XmlCharsIsNameStartCharPinLaw", "in", "(III)Z"⟩ : MethodName)) hown (mvT hZ (hw _ (List.mem_of_getElem? (i := 13) rfl))) (mvT hZ (hw _ (List.mem_of_getElem? (i := 14) rfl))) (mvT hZ (hw _ (List.mem_of_getElem? (i := 11) rfl))) (mvT hZ (hw _ (List.mem_of_getElem? (i := 15) rfl))) (by decide) (backOf (W := 0) (rm_inr l Z a0 hw [] p0 (768 : Int32) (879 : Int32) h0 n0  Z0 ) hZ (hw _ (List.mem_of_getElem? (i := 15) rfl)) (hw _ (List.mem_of_getElem? (i := 11) rfl)) (by decide) (by decide)) (g := (mkF m 81 #[.val (.int p0)] [(.int (879 : Int32)), (.int (768 : Int32)), (.int p0)])) rfl (by rw [hml]; rfl) (argsL := [(.int p0), (.int (768 : Int32)), (.int (879 : Int32))]) (rest := []) (lenOf pd_1 rfl) rfl (by show 2 * 0 + _ ≤ _; exact Nat.le_of_eq rfl) (hb hby dm3_81) (fun _ _ => ⟨rfl, e19, Nat.le_of_ble_eq_true rfl, Nat.le_of_ble_eq_true rfl⟩)
                dsimp only [Pt.U, Pt.locs, Pt.cells, Pt.slots] at X28 l28 y28 z28 st28 hQ28
                rw [l28, y28, z28] at X28
                obtain ⟨rfl, rfl, e28⟩ := hQ28
                have X28 : Stand p l e _ s m #[(.int p0)] below meth c T28 [] 0 0 := X28
                refine OGets.step st28 ?_
                show OGets p e below _ (T28.setTop (mkF m 84 #[.val (.int p0)] [(.int (f_inr p0 (768 : Int32) (879 : Int32)))]))
                by_cases hc84_29 : (f_inr p0 (768 : Int32) (879 : Int32)) = (0 : Int32)
                · refine OGets.step (fun _ => XS.ifYes X28.here hx rfl (pc0 := 84) (pc' := 89) rfl (hb hby dm3_84) rfl ((if0 _ _).trans (teq hc84_29).1) (by decide) (by decide)) ?_
                  have hv30 := hv27.trans (if_pos hc84_29)
                  show OGets p e below _ (T28.setTop (mkF m 89 #[.val (.int p0)] []))
                  refine OGets.step (fun _ => XS.iloadN X28.here hx rfl (hb hby dm3_89) rfl) ?_
                  show OGets p e below _ (T28.setTop (mkF m 90 #[.val (.int p0)] [(.int p0)]))
                  refine OGets.step (fun _ => XS.sipush X28.here hx rfl (hb hby dm3_90)) ?_
                  show OGets p e below _ (T28.setTop (mkF m 93 #[.val (.int p0)] [(.int (894 : Int32)), (.int p0)]))
                  by_cases hc93_31 : p0 = (894 : Int32)
                  · refine OGets.step (fun _ => XS.icmpNo X28.here hx rfl (hb hby dm3_93) rfl (teq hc93_31).2) ?_
                    have hv32 := hv30.trans (if_pos hc93_31)
                    show OGets p e below _ (T28.setTop (mkF m 96 #[.val (.int p0)] []))
                    refine OGets.step (fun _ => XS.iconst X28.here hx rfl (hb hby dm3_96)) ?_
                    show OGets p e below _ (T28.setTop (mkF m 97 #[.val (.int p0)] [(.int (1 : Int32))]))
                    refine OGets.retN X28 hx hlk (t := .boolean) Bd.returns (by simp) (hb hby dm3_97) (Nat.le_of_ble_eq_true rfl) (Nat.le_of_ble_eq_true rfl) ?_
                    exact ⟨congrArg (fun z => some (Value.int z)) hv32.symm, rfl, e28⟩
                  · refine OGets.step (fun _ => XS.icmpYes X28.here hx rfl (pc0 := 93) (pc' := 98) rfl (hb hby dm3_93) rfl (feq hc93_31).2 (by decide) (by decide)) ?_
                    have hv33 := hv30.trans (if_neg hc93_31)
                    show OGets p e below _ (T28.setTop (mkF m 98 #[.val (.int p0)] []))
                    refine OGets.step (fun _ => XS.iloadN X28.here hx rfl (hb hby dm3_98) rfl) ?_
                    show OGets p e below _ (T28.setTop (mkF m 99 #[.val (.int p0)] [(.int p0)]))
                    refine OGets.step (fun _ => XS.sipush X28.here hx rfl (hb hby dm3_99)) ?_
                    show OGets p e below _ (T28.setTop (mkF m 102 #[.val (.int p0)] [(.int (8192 : Int32)), (.int p0)]))
                    refine OGets.step (fun _ => XS.sipush X28.here hx rfl (hb hby dm3_102)) ?_
                    show OGets p e below _ (T28.setTop (mkF m 105 #[.val (.int p0)] [(.int (8203 : Int32)), (.int (8192 : Int32)), (.int p0)]))
                    obtain ⟨_, _, ⟨T34, L34, k34, n34⟩, -, X34, ⟨Lc34, hQ34, l34, y34, z34⟩, st34⟩ := Jvm.LawKit.callS X28 hx (y := (⟨"com/example/guarded_expansion/guardedexpansion/XmlCharsIsNameStartCharPinLaw", "in", "(III)Z"⟩ : MethodName)) hown (mvT hZ (hw _ (List.mem_of_getElem? (i := 13) rfl))) (mvT hZ (hw _ (List.mem_of_getElem? (i := 14) rfl))) (mvT hZ (hw _ (List.mem_of_getElem? (i := 11) rfl))) (mvT hZ (hw _ (List.mem_of_getElem? (i := 15) rfl))) (by decide) (backOf (W := 0) (rm_inr l Z a0 hw [] p0 (8192 : Int32) (8203 : Int32) h0 n0  Z0 ) hZ (hw _ (List.mem_of_getElem? (i := 15) rfl)) (hw _ (List.mem_of_getElem? (i := 11) rfl)) (by decide) (by decide)) (g := (mkF m 105 #[.val (.int p0)] [(.int (8203 : Int32)), (.int (8192 : Int32)), (.int p0)])) rfl (by rw [hml]; rfl) (argsL := [(.int p0), (.int (8192 : Int32)), (.int (8203 : Int32))]) (rest := []) (lenOf pd_1 rfl) rfl (by show 2 * 0 + _ ≤ _; exact Nat.le_of_eq rfl) (hb hby dm3_105) (fun _ _ => ⟨rfl, e28, Nat.le_of_ble_eq_true rfl, Nat.le_of_ble_eq_true rfl⟩)
                    dsimp only [Pt.U, Pt.locs, Pt.cells, Pt.slots] at X34 l34 y34 z34 st34 hQ34
                    rw [l34, y34, z34] at X34
                    obtain ⟨rfl, rfl, e34⟩ := hQ34
                    have X34 : Stand p l e _ s m #[(.int p0)] below meth c T34 [] 0 0 := X34
                    refine OGets.step st34 ?_
                    show OGets p e below _ (T34.setTop (mkF m 108 #[.val (.int p0)] [(.int (f_inr p0 (8192 : Int32) (8203 : Int32)))]))
                    by_cases hc108_35 : (f_inr p0 (8192 : Int32) (8203 : Int32)) = (0 : Int32)
                    · refine OGets.step (fun _ => XS.ifYes X34.here hx rfl (pc0 := 108) (pc' := 113) rfl (hb hby dm3_108) rfl ((if0 _ _).trans (teq hc108_35).1) (by decide) (by decide)) ?_
                      have hv36 := hv33.trans (if_pos hc108_35)
                      show OGets p e below _ (T34.setTop (mkF m 113 #[.val (.int p0)] []))
                      refine OGets.step (fun _ => XS.iloadN X34.here hx rfl (hb hby dm3_113) rfl) ?_
                      show OGets p e below _ (T34.setTop (mkF m 114 #[.val (.int p0)] [(.int p0)]))
                      refine OGets.step (fun _ => XS.sipush X34.here hx rfl (hb hby dm3_114)) ?_
                      show OGets p e below _ (T34.setTop (mkF m 117 #[.val (.int p0)] [(.int (8206 : Int32)), (.int p0)]))
                      refine OGets.step (fun _ => XS.sipush X34.here hx rfl (hb hby dm3_117)) ?_
                      show OGets p e below _ (T34.setTop (mkF m 120 #[.val (.int p0)] [(.int (8303 : Int32)), (.int (8206 : Int32)), (.int p0)]))
                      obtain ⟨_, _, ⟨T37, L37, k37, n37⟩, -, X37, ⟨Lc37, hQ37, l37, y37, z37⟩, st37⟩ := Jvm.LawKit.callS X34 hx (y := (⟨"com/example/guarded_expansion/guardedexpansion/XmlCharsIsNameStartCharPinLaw", "in", "(III)Z"⟩ : MethodName)) hown (mvT hZ (hw _ (List.mem_of_getElem? (i := 13) rfl))) (mvT hZ (hw _ (List.mem_of_getElem? (i := 14) rfl))) (mvT hZ (hw _ (List.mem_of_getElem? (i := 11) rfl))) (mvT hZ (hw _ (List.mem_of_getElem? (i := 15) rfl))) (by decide) (backOf (W := 0) (rm_inr l Z a0 hw [] p0 (8206 : Int32) (8303 : Int32) h0 n0  Z0 ) hZ (hw _ (List.mem_of_getElem? (i := 15) rfl)) (hw _ (List.mem_of_getElem? (i := 11) rfl)) (by decide) (by decide)) (g := (mkF m 120 #[.val (.int p0)] [(.int (8303 : Int32)), (.int (8206 : Int32)), (.int p0)])) rfl (by rw [hml]; rfl) (argsL := [(.int p0), (.int (8206 : Int32)), (.int (8303 : Int32))]) (rest := []) (lenOf pd_1 rfl) rfl (by show 2 * 0 + _ ≤ _; exact Nat.le_of_eq rfl) (hb hby dm3_120) (fun _ _ => ⟨rfl, e34, Nat.le_of_ble_eq_true rfl, Nat.le_of_ble_eq_true rfl⟩)
                      dsimp only [Pt.U, Pt.locs, Pt.cells, Pt.slots] at X37 l37 y37 z37 st37 hQ37
                      rw [l37, y37, z37] at X37
                      obtain ⟨rfl, rfl, e37⟩ := hQ37
                      have X37 : Stand p l e _ s m #[(.int p0)] below meth c T37 [] 0 0 := X37
                      refine OGets.step st37 ?_
                      show OGets p e below _ (T37.setTop (mkF m 123 #[.val (.int p0)] [(.int (f_inr p0 (8206 : Int32) (8303 : Int32)))]))
                      by_cases hc123_38 : (f_inr p0 (8206 : Int32) (8303 : Int32)) = (0 : Int32)
                      · refine OGets.step (fun _ => XS.ifYes X37.here hx rfl (pc0 := 123) (pc' := 128) rfl (hb hby dm3_123) rfl ((if0 _ _).trans (teq hc123_38).1) (by decide) (by decide)) ?_
                        have hv39 := hv36.trans (if_pos hc123_38)
                        show OGets p e below _ (T37.setTop (mkF m 128 #[.val (.int p0)] []))
                        refine OGets.step (fun _ => XS.iloadN X37.here hx rfl (hb hby dm3_128) rfl) ?_
                        show OGets p e below _ (T37.setTop (mkF m 129 #[.val (.int p0)] [(.int p0)]))
                        refine OGets.step (fun _ => XS.sipush X37.here hx rfl (hb hby dm3_129)) ?_
                        show OGets p e below _ (T37.setTop (mkF m 132 #[.val (.int p0)] [(.int (8592 : Int32)), (.int p0)]))
                        refine OGets.step (fun _ => XS.sipush X37.here hx rfl (hb hby dm3_132)) ?_
                        show OGets p e below _ (T37.setTop (mkF m 135 #[.val (.int p0)] [(.int (11263 : Int32)), (.int (8592 : Int32)), (.int p0)]))
                        obtain ⟨_, _, ⟨T40, L40, k40, n40⟩, -, X40, ⟨Lc40, hQ40, l40, y40, z40⟩, st40⟩ := Jvm.LawKit.callS X37 hx (y := (⟨"com/example/guarded_expansion/guardedexpansion/XmlCharsIsNameStartCharPinLaw", "in", "(III)Z"⟩ : MethodName)) hown (mvT hZ (hw _ (List.mem_of_getElem? (i := 13) rfl))) (mvT hZ (hw _ (List.mem_of_getElem? (i := 14) rfl))) (mvT hZ (hw _ (List.mem_of_getElem? (i := 11) rfl))) (mvT hZ (hw _ (List.mem_of_getElem? (i := 15) rfl))) (by decide) (backOf (W := 0) (rm_inr l Z a0 hw [] p0 (8592 : Int32) (11263 : Int32) h0 n0  Z0 ) hZ (hw _ (List.mem_of_getElem? (i := 15) rfl)) (hw _ (List.mem_of_getElem? (i := 11) rfl)) (by decide) (by decide)) (g := (mkF m 135 #[.val (.int p0)] [(.int (11263 : Int32)), (.int (8592 : Int32)), (.int p0)])) rfl (by rw [hml]; rfl) (argsL := [(.int p0), (.int (8592 : Int32)), (.int (11263 : Int32))]) (rest := []) (lenOf pd_1 rfl) rfl (by show 2 * 0 + _ ≤ _; exact Nat.le_of_eq rfl) (hb hby dm3_135) (fun _ _ => ⟨rfl, e37, Nat.le_of_ble_eq_true rfl, Nat.le_of_ble_eq_true rfl⟩)
                        dsimp only [Pt.U, Pt.locs, Pt.cells, Pt.slots] at X40 l40 y40 z40 st40 hQ40
                        rw [l40, y40, z40] at X40
                        obtain ⟨rfl, rfl, e40⟩ := hQ40
                        have X40 : Stand p l e _ s m #[(.int p0)] below meth c T40 [] 0 0 := X40
                        refine OGets.step st40 ?_
                        show OGets p e below _ (T40.setTop (mkF m 138 #[.val (.int p0)] [(.int (f_inr p0 (8592 : Int32) (11263 : Int32)))]))
                        by_cases hc138_41 : (f_inr p0 (8592 : Int32) (11263 : Int32)) = (0 : Int32)
                        · refine OGets.step (fun _ => XS.ifYes X40.here hx rfl (pc0 := 138) (pc' := 143) rfl (hb hby dm3_138) rfl ((if0 _ _).trans (teq hc138_41).1) (by decide) (by decide)) ?_
                          have hv42 := hv39.trans (if_pos hc138_41)
                          show OGets p e below _ (T40.setTop (mkF m 143 #[.val (.int p0)] []))
                          refine OGets.step (fun _ => XS.iloadN X40.here hx rfl (hb hby dm3_143) rfl) ?_
                          show OGets p e below _ (T40.setTop (mkF m 144 #[.val (.int p0)] [(.int p0)]))
                          refine OGets.step (fun _ => XS.sipush X40.here hx rfl (hb hby dm3_144)) ?_
                          show OGets p e below _ (T40.setTop (mkF m 147 #[.val (.int p0)] [(.int (12272 : Int32)), (.int p0)]))
                          refine OGets.step (fun _ => XS.sipush X40.here hx rfl (hb hby dm3_147)) ?_
                          show OGets p e below _ (T40.setTop (mkF m 150 #[.val (.int p0)] [(.int (12288 : Int32)), (.int (12272 : Int32)), (.int p0)]))
                          obtain ⟨_, _, ⟨T43, L43, k43, n43⟩, -, X43, ⟨Lc43, hQ43, l43, y43, z43⟩, st43⟩ := Jvm.LawKit.callS X40 hx (y := (⟨"com/example/guarded_expansion/guardedexpansion/XmlCharsIsNameStartCharPinLaw", "in", "(III)Z"⟩ : MethodName)) hown (mvT hZ (hw _ (List.mem_of_getElem? (i := 13) rfl))) (mvT hZ (hw _ (List.mem_of_getElem? (i := 14) rfl))) (mvT hZ (hw _ (List.mem_of_getElem? (i := 11) rfl))) (mvT hZ (hw _ (List.mem_of_getElem? (i := 15) rfl))) (by decide) (backOf (W := 0) (rm_inr l Z a0 hw [] p0 (12272 : Int32) (12288 : Int32) h0 n0  Z0 ) hZ (hw _ (List.mem_of_getElem? (i := 15) rfl)) (hw _ (List.mem_of_getElem? (i := 11) rfl)) (by decide) (by decide)) (g := (mkF m 150 #[.val (.int p0)] [(.int (12288 : Int32)), (.int (12272 : Int32)), (.int p0)])) rfl (by rw [hml]; rfl) (argsL := [(.int p0), (.int (12272 : Int32)), (.int (12288 : Int32))]) (rest := []) (lenOf pd_1 rfl) rfl (by show 2 * 0 + _ ≤ _; exact Nat.le_of_eq rfl) (hb hby dm3_150) (fun _ _ => ⟨rfl, e40, Nat.le_of_ble_eq_true rfl, Nat.le_of_ble_eq_true rfl⟩)
                          dsimp only [Pt.U, Pt.locs, Pt.cells, Pt.slots] at X43 l43 y43 z43 st43 hQ43
                          rw [l43, y43, z43] at X43
                          obtain ⟨rfl, rfl, e43⟩ := hQ43
                          have X43 : Stand p l e _ s m #[(.int p0)] below meth c T43 [] 0 0 := X43
                          refine OGets.step st43 ?_
                          show OGets p e below _ (T43.setTop (mkF m 153 #[.val (.int p0)] [(.int (f_inr p0 (12272 : Int32) (12288 : Int32)))]))
                          by_cases hc153_44 : (f_inr p0 (12272 : Int32) (12288 : Int32)) = (0 : Int32)
                          · refine OGets.step (fun _ => XS.ifYes X43.here hx rfl (pc0 := 153) (pc' := 158) rfl (hb hby dm3_153) rfl ((if0 _ _).trans (teq hc153_44).1) (by decide) (by decide)) ?_
                            have hv45 := hv42.trans (if_pos hc153_44)
                            show OGets p e below _ (T43.setTop (mkF m 158 #[.val (.int p0)] []))
                            refine OGets.step (fun _ => XS.iloadN X43.here hx rfl (hb hby dm3_158) rfl) ?_
                            show OGets p e below _ (T43.setTop (mkF m 159 #[.val (.int p0)] [(.int p0)]))
                            refine OGets.step (fun _ => X43.ldcInt hx hown (mvT hZ (hw _ (List.mem_of_getElem? (i := 16) rfl))) (g := (mkF m 159 #[.val (.int p0)] [(.int p0)])) rfl (hb hby dm3_159) _) ?_
                            show OGets p e below _ (T43.setTop (mkF m 161 #[.val (.int p0)] [(.int (55296 : Int32)), (.int p0)]))
                            refine OGets.step (fun _ => X43.ldcInt hx hown (mvT hZ (hw _ (List.mem_of_getElem? (i := 17) rfl))) (g := (mkF m 161 #[.val (.int p0)] [(.int (55296 : Int32)), (.int p0)])) rfl (hb hby dm3_161) _) ?_
                            show OGets p e below _ (T43.setTop (mkF m 163 #[.val (.int p0)] [(.int (63743 : Int32)), (.int (55296 : Int32)), (.int p0)]))
                            obtain ⟨_, _, ⟨T46, L46, k46, n46⟩, -, X46, ⟨Lc46, hQ46, l46, y46, z46⟩, st46⟩ := Jvm.LawKit.callS X43 hx (y := (⟨"com/example/guarded_expansion/guardedexpansion/XmlCharsIsNameStartCharPinLaw", "in", "(III)Z"⟩ : MethodName)) hown (mvT hZ (hw _ (List.mem_of_getElem? (i := 13) rfl))) (mvT hZ (hw _ (List.mem_of_getElem? (i := 14) rfl))) (mvT hZ (hw _ (List.mem_of_getElem? (i := 11) rfl))) (mvT hZ (hw _ (List.mem_of_getElem? (i := 15) rfl))) (by decide) (backOf (W := 0) (rm_inr l Z a0 hw [] p0 (55296 : Int32) (63743 : Int32) h0 n0  Z0 ) hZ (hw _ (List.mem_of_getElem? (i := 15) rfl)) (hw _ (List.mem_of_getElem? (i := 11) rfl)) (by decide) (by decide)) (g := (mkF m 163 #[.val (.int p0)] [(.int (63743 : Int32)), (.int (55296 : Int32)), (.int p0)])) rfl (by rw [hml]; rfl) (argsL := [(.int p0), (.int (55296 : Int32)), (.int (63743 : Int32))]) (rest := []) (lenOf pd_1 rfl) rfl (by show 2 * 0 + _ ≤ _; exact Nat.le_of_eq rfl) (hb hby dm3_163) (fun _ _ => ⟨rfl, e43, Nat.le_of_ble_eq_true rfl, Nat.le_of_ble_eq_true rfl⟩)
                            dsimp only [Pt.U, Pt.locs, Pt.cells, Pt.slots] at X46 l46 y46 z46 st46 hQ46
                            rw [l46, y46, z46] at X46
                            obtain ⟨rfl, rfl, e46⟩ := hQ46
                            have X46 : Stand p l e _ s m #[(.int p0)] below meth c T46 [] 0 0 := X46
                            refine OGets.step st46 ?_
                            show OGets p e below _ (T46.setTop (mkF m 166 #[.val (.int p0)] [(.int (f_inr p0 (55296 : Int32) (63743 : Int32)))]))
                            by_cases hc166_47 : (f_inr p0 (55296 : Int32) (63743 : Int32)) = (0 : Int32)
                            · refine OGets.step (fun _ => XS.ifYes X46.here hx rfl (pc0 := 166) (pc' := 171) rfl (hb hby dm3_166) rfl ((if0 _ _).trans (teq hc166_47).1) (by decide) (by decide)) ?_
                              have hv48 := hv45.trans (if_pos hc166_47)
                              show OGets p e below _ (T46.setTop (mkF m 171 #[.val (.int p0)] []))
                              refine OGets.step (fun _ => XS.iloadN X46.here hx rfl (hb hby dm3_171) rfl) ?_
                              show OGets p e below _ (T46.setTop (mkF m 172 #[.val (.int p0)] [(.int p0)]))
                              refine OGets.step (fun _ => X46.ldcInt hx hown (mvT hZ (hw _ (List.mem_of_getElem? (i := 18) rfl))) (g := (mkF m 172 #[.val (.int p0)] [(.int p0)])) rfl (hb hby dm3_172) _) ?_
                              show OGets p e below _ (T46.setTop (mkF m 174 #[.val (.int p0)] [(.int (64976 : Int32)), (.int p0)]))
                              refine OGets.step (fun _ => X46.ldcInt hx hown (mvT hZ (hw _ (List.mem_of_getElem? (i := 19) rfl))) (g := (mkF m 174 #[.val (.int p0)] [(.int (64976 : Int32)), (.int p0)])) rfl (hb hby dm3_174) _) ?_
                              show OGets p e below _ (T46.setTop (mkF m 176 #[.val (.int p0)] [(.int (65007 : Int32)), (.int (64976 : Int32)), (.int p0)]))
                              obtain ⟨_, _, ⟨T49, L49, k49, n49⟩, -, X49, ⟨Lc49, hQ49, l49, y49, z49⟩, st49⟩ := Jvm.LawKit.callS X46 hx (y := (⟨"com/example/guarded_expansion/guardedexpansion/XmlCharsIsNameStartCharPinLaw", "in", "(III)Z"⟩ : MethodName)) hown (mvT hZ (hw _ (List.mem_of_getElem? (i := 13) rfl))) (mvT hZ (hw _ (List.mem_of_getElem? (i := 14) rfl))) (mvT hZ (hw _ (List.mem_of_getElem? (i := 11) rfl))) (mvT hZ (hw _ (List.mem_of_getElem? (i := 15) rfl))) (by decide) (backOf (W := 0) (rm_inr l Z a0 hw [] p0 (64976 : Int32) (65007 : Int32) h0 n0  Z0 ) hZ (hw _ (List.mem_of_getElem? (i := 15) rfl)) (hw _ (List.mem_of_getElem? (i := 11) rfl)) (by decide) (by decide)) (g := (mkF m 176 #[.val (.int p0)] [(.int (65007 : Int32)), (.int (64976 : Int32)), (.int p0)])) rfl (by rw [hml]; rfl) (argsL := [(.int p0), (.int (64976 : Int32)), (.int (65007 : Int32))]) (rest := []) (lenOf pd_1 rfl) rfl (by show 2 * 0 + _ ≤ _; exact Nat.le_of_eq rfl) (hb hby dm3_176) (fun _ _ => ⟨rfl, e46, Nat.le_of_ble_eq_true rfl, Nat.le_of_ble_eq_true rfl⟩)
                              dsimp only [Pt.U, Pt.locs, Pt.cells, Pt.slots] at X49 l49 y49 z49 st49 hQ49
                              rw [l49, y49, z49] at X49
                              obtain ⟨rfl, rfl, e49⟩ := hQ49
                              have X49 : Stand p l e _ s m #[(.int p0)] below meth c T49 [] 0 0 := X49
                              refine OGets.step st49 ?_
                              show OGets p e below _ (T49.setTop (mkF m 179 #[.val (.int p0)] [(.int (f_inr p0 (64976 : Int32) (65007 : Int32)))]))
                              by_cases hc179_50 : (f_inr p0 (64976 : Int32) (65007 : Int32)) = (0 : Int32)
                              · refine OGets.step (fun _ => XS.ifYes X49.here hx rfl (pc0 := 179) (pc' := 184) rfl (hb hby dm3_179) rfl ((if0 _ _).trans (teq hc179_50).1) (by decide) (by decide)) ?_
                                have hv51 := hv48.trans (if_pos hc179_50)
                                show OGets p e below _ (T49.setTop (mkF m 184 #[.val (.int p0)] []))
                                refine OGets.step (fun _ => XS.iloadN X49.here hx rfl (hb hby dm3_184) rfl) ?_
                                show OGets p e below _ (T49.setTop (mkF m 185 #[.val (.int p0)] [(.int p0)]))
                                refine OGets.step (fun _ => X49.ldcInt hx hown (mvT hZ (hw _ (List.mem_of_getElem? (i := 20) rfl))) (g := (mkF m 185 #[.val (.int p0)] [(.int p0)])) rfl (hb hby dm3_185) _) ?_
                                show OGets p e below _ (T49.setTop (mkF m 187 #[.val (.int p0)] [(.int (65534 : Int32)), (.int p0)]))
                                refine OGets.step (fun _ => X49.ldcInt hx hown (mvT hZ (hw _ (List.mem_of_getElem? (i := 21) rfl))) (g := (mkF m 187 #[.val (.int p0)] [(.int (65534 : Int32)), (.int p0)])) rfl (hb hby dm3_187) _) ?_
                                show OGets p e below _ (T49.setTop (mkF m 189 #[.val (.int p0)] [(.int (65535 : Int32)), (.int (65534 : Int32)), (.int p0)]))
                                obtain ⟨_, _, ⟨T52, L52, k52, n52⟩, -, X52, ⟨Lc52, hQ52, l52, y52, z52⟩, st52⟩ := Jvm.LawKit.callS X49 hx (y := (⟨"com/example/guarded_expansion/guardedexpansion/XmlCharsIsNameStartCharPinLaw", "in", "(III)Z"⟩ : MethodName)) hown (mvT hZ (hw _ (List.mem_of_getElem? (i := 13) rfl))) (mvT hZ (hw _ (List.mem_of_getElem? (i := 14) rfl))) (mvT hZ (hw _ (List.mem_of_getElem? (i := 11) rfl))) (mvT hZ (hw _ (List.mem_of_getElem? (i := 15) rfl))) (by decide) (backOf (W := 0) (rm_inr l Z a0 hw [] p0 (65534 : Int32) (65535 : Int32) h0 n0  Z0 ) hZ (hw _ (List.mem_of_getElem? (i := 15) rfl)) (hw _ (List.mem_of_getElem? (i := 11) rfl)) (by decide) (by decide)) (g := (mkF m 189 #[.val (.int p0)] [(.int (65535 : Int32)), (.int (65534 : Int32)), (.int p0)])) rfl (by rw [hml]; rfl) (argsL := [(.int p0), (.int (65534 : Int32)), (.int (65535 : Int32))]) (rest := []) (lenOf pd_1 rfl) rfl (by show 2 * 0 + _ ≤ _; exact Nat.le_of_eq rfl) (hb hby dm3_189) (fun _ _ => ⟨rfl, e49, Nat.le_of_ble_eq_true rfl, Nat.le_of_ble_eq_true rfl⟩)
                                dsimp only [Pt.U, Pt.locs, Pt.cells, Pt.slots] at X52 l52 y52 z52 st52 hQ52
                                rw [l52, y52, z52] at X52
                                obtain ⟨rfl, rfl, e52⟩ := hQ52
                                have X52 : Stand p l e _ s m #[(.int p0)] below meth c T52 [] 0 0 := X52
                                refine OGets.step st52 ?_
                                show OGets p e below _ (T52.setTop (mkF m 192 #[.val (.int p0)] [(.int (f_inr p0 (65534 : Int32) (65535 : Int32)))]))
                                by_cases hc192_53 : (f_inr p0 (65534 : Int32) (65535 : Int32)) = (0 : Int32)
                                · refine OGets.step (fun _ => XS.ifYes X52.here hx rfl (pc0 := 192) (pc' := 197) rfl (hb hby dm3_192) rfl ((if0 _ _).trans (teq hc192_53).1) (by decide) (by decide)) ?_
                                  have hv54 := hv51.trans (if_pos hc192_53)
                                  show OGets p e below _ (T52.setTop (mkF m 197 #[.val (.int p0)] []))
                                  refine OGets.step (fun _ => XS.iloadN X52.here hx rfl (hb hby dm3_197) rfl) ?_
                                  show OGets p e below _ (T52.setTop (mkF m 198 #[.val (.int p0)] [(.int p0)]))
                                  refine OGets.step (fun _ => X52.ldcInt hx hown (mvT hZ (hw _ (List.mem_of_getElem? (i := 7) rfl))) (g := (mkF m 198 #[.val (.int p0)] [(.int p0)])) rfl (hb hby dm3_198) _) ?_
                                  show OGets p e below _ (T52.setTop (mkF m 200 #[.val (.int p0)] [(.int (983039 : Int32)), (.int p0)]))
                                  by_cases hc200_55 : (983039 : Int32) < p0
                                  · refine OGets.step (fun _ => XS.icmpNo X52.here hx rfl (hb hby dm3_200) rfl (tlt hc200_55).2.2.2) ?_
                                    have hv56 := hv54.trans (if_pos hc200_55)
                                    show OGets p e below _ (T52.setTop (mkF m 203 #[.val (.int p0)] []))
                                    refine OGets.step (fun _ => XS.iconst X52.here hx rfl (hb hby dm3_203)) ?_
                                    show OGets p e below _ (T52.setTop (mkF m 204 #[.val (.int p0)] [(.int (1 : Int32))]))
                                    refine OGets.retN X52 hx hlk (t := .boolean) Bd.returns (by simp) (hb hby dm3_204) (Nat.le_of_ble_eq_true rfl) (Nat.le_of_ble_eq_true rfl) ?_
                                    exact ⟨congrArg (fun z => some (Value.int z)) hv56.symm, rfl, e52⟩
                                  · refine OGets.step (fun _ => XS.icmpYes X52.here hx rfl (pc0 := 200) (pc' := 205) rfl (hb hby dm3_200) rfl (flt hc200_55).2.2.2 (by decide) (by decide)) ?_
                                    have hv57 := hv54.trans (if_neg hc200_55)
                                    show OGets p e below _ (T52.setTop (mkF m 205 #[.val (.int p0)] []))
                                    refine OGets.step (fun _ => XS.iconst X52.here hx rfl (hb hby dm3_205)) ?_
                                    show OGets p e below _ (T52.setTop (mkF m 206 #[.val (.int p0)] [(.int (0 : Int32))]))
                                    refine OGets.retN X52 hx hlk (t := .boolean) Bd.returns (by simp) (hb hby dm3_206) (Nat.le_of_ble_eq_true rfl) (Nat.le_of_ble_eq_true rfl) ?_
                                    exact ⟨congrArg (fun z => some (Value.int z)) hv57.symm, rfl, e52⟩
                                · refine OGets.step (fun _ => XS.ifNo X52.here hx rfl (hb hby dm3_192) rfl ((if0 _ _).trans (feq hc192_53).1)) ?_
                                  have hv58 := hv51.trans (if_neg hc192_53)
                                  show OGets p e below _ (T52.setTop (mkF m 195 #[.val (.int p0)] []))
                                  refine OGets.step (fun _ => XS.iconst X52.here hx rfl (hb hby dm3_195)) ?_
                                  show OGets p e below _ (T52.setTop (mkF m 196 #[.val (.int p0)] [(.int (1 : Int32))]))
                                  refine OGets.retN X52 hx hlk (t := .boolean) Bd.returns (by simp) (hb hby dm3_196) (Nat.le_of_ble_eq_true rfl) (Nat.le_of_ble_eq_true rfl) ?_
                                  exact ⟨congrArg (fun z => some (Value.int z)) hv58.symm, rfl, e52⟩
                              · refine OGets.step (fun _ => XS.ifNo X49.here hx rfl (hb hby dm3_179) rfl ((if0 _ _).trans (feq hc179_50).1)) ?_
                                have hv59 := hv48.trans (if_neg hc179_50)
                                show OGets p e below _ (T49.setTop (mkF m 182 #[.val (.int p0)] []))
                                refine OGets.step (fun _ => XS.iconst X49.here hx rfl (hb hby dm3_182)) ?_
                                show OGets p e below _ (T49.setTop (mkF m 183 #[.val (.int p0)] [(.int (1 : Int32))]))
                                refine OGets.retN X49 hx hlk (t := .boolean) Bd.returns (by simp) (hb hby dm3_183) (Nat.le_of_ble_eq_true rfl) (Nat.le_of_ble_eq_true rfl) ?_
                                exact ⟨congrArg (fun z => some (Value.int z)) hv59.symm, rfl, e49⟩
                            · refine OGets.step (fun _ => XS.ifNo X46.here hx rfl (hb hby dm3_166) rfl ((if0 _ _).trans (feq hc166_47).1)) ?_
                              have hv60 := hv45.trans (if_neg hc166_47)
                              show OGets p e below _ (T46.setTop (mkF m 169 #[.val (.int p0)] []))
                              refine OGets.step (fun _ => XS.iconst X46.here hx rfl (hb hby dm3_169)) ?_
                              show OGets p e below _ (T46.setTop (mkF m 170 #[.val (.int p0)] [(.int (1 : Int32))]))
                              refine OGets.retN X46 hx hlk (t := .boolean) Bd.returns (by simp) (hb hby dm3_170) (Nat.le_of_ble_eq_true rfl) (Nat.le_of_ble_eq_true rfl) ?_
                              exact ⟨congrArg (fun z => some (Value.int z)) hv60.symm, rfl, e46⟩
                          · refine OGets.step (fun _ => XS.ifNo X43.here hx rfl (hb hby dm3_153) rfl ((if0 _ _).trans (feq hc153_44).1)) ?_
                            have hv61 := hv42.trans (if_neg hc153_44)
                            show OGets p e below _ (T43.setTop (mkF m 156 #[.val (.int p0)] []))
                            refine OGets.step (fun _ => XS.iconst X43.here hx rfl (hb hby dm3_156)) ?_
                            show OGets p e below _ (T43.setTop (mkF m 157 #[.val (.int p0)] [(.int (1 : Int32))]))
                            refine OGets.retN X43 hx hlk (t := .boolean) Bd.returns (by simp) (hb hby dm3_157) (Nat.le_of_ble_eq_true rfl) (Nat.le_of_ble_eq_true rfl) ?_
                            exact ⟨congrArg (fun z => some (Value.int z)) hv61.symm, rfl, e43⟩
                        · refine OGets.step (fun _ => XS.ifNo X40.here hx rfl (hb hby dm3_138) rfl ((if0 _ _).trans (feq hc138_41).1)) ?_
                          have hv62 := hv39.trans (if_neg hc138_41)
                          show OGets p e below _ (T40.setTop (mkF m 141 #[.val (.int p0)] []))
                          refine OGets.step (fun _ => XS.iconst X40.here hx rfl (hb hby dm3_141)) ?_
                          show OGets p e below _ (T40.setTop (mkF m 142 #[.val (.int p0)] [(.int (1 : Int32))]))
                          refine OGets.retN X40 hx hlk (t := .boolean) Bd.returns (by simp) (hb hby dm3_142) (Nat.le_of_ble_eq_true rfl) (Nat.le_of_ble_eq_true rfl) ?_
                          exact ⟨congrArg (fun z => some (Value.int z)) hv62.symm, rfl, e40⟩
                      · refine OGets.step (fun _ => XS.ifNo X37.here hx rfl (hb hby dm3_123) rfl ((if0 _ _).trans (feq hc123_38).1)) ?_
                        have hv63 := hv36.trans (if_neg hc123_38)
                        show OGets p e below _ (T37.setTop (mkF m 126 #[.val (.int p0)] []))
                        refine OGets.step (fun _ => XS.iconst X37.here hx rfl (hb hby dm3_126)) ?_
                        show OGets p e below _ (T37.setTop (mkF m 127 #[.val (.int p0)] [(.int (1 : Int32))]))
                        refine OGets.retN X37 hx hlk (t := .boolean) Bd.returns (by simp) (hb hby dm3_127) (Nat.le_of_ble_eq_true rfl) (Nat.le_of_ble_eq_true rfl) ?_
                        exact ⟨congrArg (fun z => some (Value.int z)) hv63.symm, rfl, e37⟩
                    · refine OGets.step (fun _ => XS.ifNo X34.here hx rfl (hb hby dm3_108) rfl ((if0 _ _).trans (feq hc108_35).1)) ?_
                      have hv64 := hv33.trans (if_neg hc108_35)
                      show OGets p e below _ (T34.setTop (mkF m 111 #[.val (.int p0)] []))
                      refine OGets.step (fun _ => XS.iconst X34.here hx rfl (hb hby dm3_111)) ?_
                      show OGets p e below _ (T34.setTop (mkF m 112 #[.val (.int p0)] [(.int (1 : Int32))]))
                      refine OGets.retN X34 hx hlk (t := .boolean) Bd.returns (by simp) (hb hby dm3_112) (Nat.le_of_ble_eq_true rfl) (Nat.le_of_ble_eq_true rfl) ?_
                      exact ⟨congrArg (fun z => some (Value.int z)) hv64.symm, rfl, e34⟩
                · refine OGets.step (fun _ => XS.ifNo X28.here hx rfl (hb hby dm3_84) rfl ((if0 _ _).trans (feq hc84_29).1)) ?_
                  have hv65 := hv27.trans (if_neg hc84_29)
                  show OGets p e below _ (T28.setTop (mkF m 87 #[.val (.int p0)] []))
                  refine OGets.step (fun _ => XS.iconst X28.here hx rfl (hb hby dm3_87)) ?_
                  show OGets p e below _ (T28.setTop (mkF m 88 #[.val (.int p0)] [(.int (1 : Int32))]))
                  refine OGets.retN X28 hx hlk (t := .boolean) Bd.returns (by simp) (hb hby dm3_88) (Nat.le_of_ble_eq_true rfl) (Nat.le_of_ble_eq_true rfl) ?_
                  exact ⟨congrArg (fun z => some (Value.int z)) hv65.symm, rfl, e28⟩
          · refine OGets.step (fun _ => XS.ifNo X19.here hx rfl (hb hby dm3_51) rfl ((if0 _ _).trans (feq hc51_20).1)) ?_
            have hv66 := hv18.trans (if_neg hc51_20)
            show OGets p e below _ (T19.setTop (mkF m 54 #[.val (.int p0)] []))
            refine OGets.step (fun _ => XS.iconst X19.here hx rfl (hb hby dm3_54)) ?_
            show OGets p e below _ (T19.setTop (mkF m 55 #[.val (.int p0)] [(.int (1 : Int32))]))
            refine OGets.retN X19 hx hlk (t := .boolean) Bd.returns (by simp) (hb hby dm3_55) (Nat.le_of_ble_eq_true rfl) (Nat.le_of_ble_eq_true rfl) ?_
            exact ⟨congrArg (fun z => some (Value.int z)) hv66.symm, rfl, e19⟩
      · refine OGets.step (fun _ => XS.ifNo X13.here hx rfl (hb hby dm3_29) rfl ((if0 _ _).trans (feq hc29_14).1)) ?_
        have hv67 := hv12.trans (if_neg hc29_14)
        show OGets p e below _ (T13.setTop (mkF m 32 #[.val (.int p0)] []))
        refine OGets.step (fun _ => XS.iconst X13.here hx rfl (hb hby dm3_32)) ?_
        show OGets p e below _ (T13.setTop (mkF m 33 #[.val (.int p0)] [(.int (1 : Int32))]))
        refine OGets.retN X13 hx hlk (t := .boolean) Bd.returns (by simp) (hb hby dm3_33) (Nat.le_of_ble_eq_true rfl) (Nat.le_of_ble_eq_true rfl) ?_
        exact ⟨congrArg (fun z => some (Value.int z)) hv67.symm, rfl, e13⟩
    · refine OGets.step (fun _ => XS.ifNo X10.here hx rfl (hb hby dm3_16) rfl ((if0 _ _).trans (feq hc16_11).1)) ?_
      have hv68 := hv9.trans (if_neg hc16_11)
      show OGets p e below _ (T10.setTop (mkF m 19 #[.val (.int p0)] []))
      refine OGets.step (fun _ => XS.iconst X10.here hx rfl (hb hby dm3_19)) ?_
      show OGets p e below _ (T10.setTop (mkF m 20 #[.val (.int p0)] [(.int (1 : Int32))]))
      refine OGets.retN X10 hx hlk (t := .boolean) Bd.returns (by simp) (hb hby dm3_20) (Nat.le_of_ble_eq_true rfl) (Nat.le_of_ble_eq_true rfl) ?_
      exact ⟨congrArg (fun z => some (Value.int z)) hv68.symm, rfl, e10⟩
def f_isN_214 (p0 : Int32) : Int32 := (0 : Int32)
def f_isN_210 (p0 : Int32) : Int32 := (1 : Int32)
def f_isN_198 (p0 : Int32) : Int32 := (if p0 < (65536 : Int32) then f_isN_214 p0 else (if (983039 : Int32) < p0 then f_isN_214 p0 else f_isN_210 p0))
def f_isN_186 (p0 : Int32) : Int32 := (if p0 < (65008 : Int32) then f_isN_198 p0 else (if (65533 : Int32) < p0 then f_isN_198 p0 else f_isN_210 p0))
def f_isN_174 (p0 : Int32) : Int32 := (if p0 < (63744 : Int32) then f_isN_186 p0 else (if (64975 : Int32) < p0 then f_isN_186 p0 else f_isN_210 p0))
def f_isN_161 (p0 : Int32) : Int32 := (if p0 < (12289 : Int32) then f_isN_174 p0 else (if (55295 : Int32) < p0 then f_isN_174 p0 else f_isN_210 p0))
def f_isN_147 (p0 : Int32) : Int32 := (if p0 < (11264 : Int32) then f_isN_161 p0 else (if (12271 : Int32) < p0 then f_isN_161 p0 else f_isN_210 p0))
def f_isN_133 (p0 : Int32) : Int32 := (if p0 < (8304 : Int32) then f_isN_147 p0 else (if (8591 : Int32) < p0 then f_isN_147 p0 else f_isN_210 p0))
def f_isN_119 (p0 : Int32) : Int32 := (if p0 < (8204 : Int32) then f_isN_133 p0 else (if (8205 : Int32) < p0 then f_isN_133 p0 else f_isN_210 p0))
def f_isN_105 (p0 : Int32) : Int32 := (if p0 < (895 : Int32) then f_isN_119 p0 else (if (8191 : Int32) < p0 then f_isN_119 p0 else f_isN_210 p0))
def f_isN_91 (p0 : Int32) : Int32 := (if p0 < (880 : Int32) then f_isN_105 p0 else (if (893 : Int32) < p0 then f_isN_105 p0 else f_isN_210 p0))
def f_isN_77 (p0 : Int32) : Int32 := (if p0 < (248 : Int32) then f_isN_91 p0 else (if (767 : Int32) < p0 then f_isN_91 p0 else f_isN_210 p0))
def f_isN_63 (p0 : Int32) : Int32 := (if p0 < (216 : Int32) then f_isN_77 p0 else (if (246 : Int32) < p0 then f_isN_77 p0 else f_isN_210 p0))
def f_isN_43 (p0 : Int32) : Int32 := (1 : Int32)
def f_isN_31 (p0 : Int32) : Int32 := (if p0 = (95 : Int32) then f_isN_43 p0 else (if p0 = (58 : Int32) then f_isN_43 p0 else (0 : Int32)))
def f_isN_19 (p0 : Int32) : Int32 := (if p0 < (65 : Int32) then f_isN_31 p0 else (if (90 : Int32) < p0 then f_isN_31 p0 else f_isN_43 p0))
def f_isN (p0 : Int32) : Int32 := (if p0 < (128 : Int32) then (if p0 < (97 : Int32) then f_isN_19 p0 else (if (122 : Int32) < p0 then f_isN_19 p0 else f_isN_43 p0)) else (if p0 < (192 : Int32) then f_isN_63 p0 else (if (214 : Int32) < p0 then f_isN_63 p0 else f_isN_210 p0)))
theorem d62m4_214 : decode prog_62_method_4_code 214 = .ok (.iconst 0, 1) := by decide +kernel
theorem d62m4_215 : decode prog_62_method_4_code 215 = .ok (.ireturn, 1) := by decide +kernel
theorem d62m4_210 : decode prog_62_method_4_code 210 = .ok (.iconst 1, 1) := by decide +kernel
theorem d62m4_211 : decode prog_62_method_4_code 211 = .ok (.goto 4, 3) := by decide +kernel
theorem d62m4_198 : decode prog_62_method_4_code 198 = .ok (.iload_n 0, 1) := by decide +kernel
theorem d62m4_199 : decode prog_62_method_4_code 199 = .ok (.ldc 10, 2) := by decide +kernel
theorem d62m4_201 : decode prog_62_method_4_code 201 = .ok (.if_icmp .lt 13, 3) := by decide +kernel
theorem d62m4_204 : decode prog_62_method_4_code 204 = .ok (.iload_n 0, 1) := by decide +kernel
theorem d62m4_205 : decode prog_62_method_4_code 205 = .ok (.ldc 15, 2) := by decide +kernel
theorem d62m4_207 : decode prog_62_method_4_code 207 = .ok (.if_icmp .gt 7, 3) := by decide +kernel
theorem d62m4_186 : decode prog_62_method_4_code 186 = .ok (.iload_n 0, 1) := by decide +kernel
theorem d62m4_187 : decode prog_62_method_4_code 187 = .ok (.ldc 14, 2) := by decide +kernel
theorem d62m4_189 : decode prog_62_method_4_code 189 = .ok (.if_icmp .lt 9, 3) := by decide +kernel
theorem d62m4_192 : decode prog_62_method_4_code 192 = .ok (.iload_n 0, 1) := by decide +kernel
theorem d62m4_193 : decode prog_62_method_4_code 193 = .ok (.ldc 9, 2) := by decide +kernel
theorem d62m4_195 : decode prog_62_method_4_code 195 = .ok (.if_icmp .le 15, 3) := by decide +kernel
theorem d62m4_174 : decode prog_62_method_4_code 174 = .ok (.iload_n 0, 1) := by decide +kernel
theorem d62m4_175 : decode prog_62_method_4_code 175 = .ok (.ldc 12, 2) := by decide +kernel
theorem d62m4_177 : decode prog_62_method_4_code 177 = .ok (.if_icmp .lt 9, 3) := by decide +kernel
theorem d62m4_180 : decode prog_62_method_4_code 180 = .ok (.iload_n 0, 1) := by decide +kernel
theorem d62m4_181 : decode prog_62_method_4_code 181 = .ok (.ldc 13, 2) := by decide +kernel
theorem d62m4_183 : decode prog_62_method_4_code 183 = .ok (.if_icmp .le 27, 3) := by decide +kernel
theorem d62m4_161 : decode prog_62_method_4_code 161 = .ok (.iload_n 0, 1) := by decide +kernel
theorem d62m4_162 : decode prog_62_method_4_code 162 = .ok (.sipush 12289, 3) := by decide +kernel
theorem d62m4_165 : decode prog_62_method_4_code 165 = .ok (.if_icmp .lt 9, 3) := by decide +kernel
theorem d62m4_168 : decode prog_62_method_4_code 168 = .ok (.iload_n 0, 1) := by decide +kernel
theorem d62m4_169 : decode prog_62_method_4_code 169 = .ok (.ldc 7, 2) := by decide +kernel
theorem d62m4_171 : decode prog_62_method_4_code 171 = .ok (.if_icmp .le 39, 3) := by decide +kernel
theorem d62m4_147 : decode prog_62_method_4_code 147 = .ok (.iload_n 0, 1) := by decide +kernel
theorem d62m4_148 : decode prog_62_method_4_code 148 = .ok (.sipush 11264, 3) := by decide +kernel
theorem d62m4_151 : decode prog_62_method_4_code 151 = .ok (.if_icmp .lt 10, 3) := by decide +kernel
theorem d62m4_154 : decode prog_62_method_4_code 154 = .ok (.iload_n 0, 1) := by decide +kernel
theorem d62m4_155 : decode prog_62_method_4_code 155 = .ok (.sipush 12271, 3) := by decide +kernel
theorem d62m4_158 : decode prog_62_method_4_code 158 = .ok (.if_icmp .le 52, 3) := by decide +kernel
theorem d62m4_133 : decode prog_62_method_4_code 133 = .ok (.iload_n 0, 1) := by decide +kernel
theorem d62m4_134 : decode prog_62_method_4_code 134 = .ok (.sipush 8304, 3) := by decide +kernel
theorem d62m4_137 : decode prog_62_method_4_code 137 = .ok (.if_icmp .lt 10, 3) := by decide +kernel
theorem d62m4_140 : decode prog_62_method_4_code 140 = .ok (.iload_n 0, 1) := by decide +kernel
theorem d62m4_141 : decode prog_62_method_4_code 141 = .ok (.sipush 8591, 3) := by decide +kernel
theorem d62m4_144 : decode prog_62_method_4_code 144 = .ok (.if_icmp .le 66, 3) := by decide +kernel
theorem d62m4_119 : decode prog_62_method_4_code 119 = .ok (.iload_n 0, 1) := by decide +kernel
theorem d62m4_120 : decode prog_62_method_4_code 120 = .ok (.sipush 8204, 3) := by decide +kernel
theorem d62m4_123 : decode prog_62_method_4_code 123 = .ok (.if_icmp .lt 10, 3) := by decide +kernel
theorem d62m4_126 : decode prog_62_method_4_code 126 = .ok (.iload_n 0, 1) := by decide +kernel
theorem d62m4_127 : decode prog_62_method_4_code 127 = .ok (.sipush 8205, 3) := by decide +kernel
theorem d62m4_130 : decode prog_62_method_4_code 130 = .ok (.if_icmp .le 80, 3) := by decide +kernel
theorem d62m4_105 : decode prog_62_method_4_code 105 = .ok (.iload_n 0, 1) := by decide +kernel
theorem d62m4_106 : decode prog_62_method_4_code 106 = .ok (.sipush 895, 3) := by decide +kernel
theorem d62m4_109 : decode prog_62_method_4_code 109 = .ok (.if_icmp .lt 10, 3) := by decide +kernel
theorem d62m4_112 : decode prog_62_method_4_code 112 = .ok (.iload_n 0, 1) := by decide +kernel
theorem d62m4_113 : decode prog_62_method_4_code 113 = .ok (.sipush 8191, 3) := by decide +kernel
theorem d62m4_116 : decode prog_62_method_4_code 116 = .ok (.if_icmp .le 94, 3) := by decide +kernel
theorem d62m4_91 : decode prog_62_method_4_code 91 = .ok (.iload_n 0, 1) := by decide +kernel
theorem d62m4_92 : decode prog_62_method_4_code 92 = .ok (.sipush 880, 3) := by decide +kernel
theorem d62m4_95 : decode prog_62_method_4_code 95 = .ok (.if_icmp .lt 10, 3) := by decide +kernel
theorem d62m4_98 : decode prog_62_method_4_code 98 = .ok (.iload_n 0, 1) := by decide +kernel
theorem d62m4_99 : decode prog_62_method_4_code 99 = .ok (.sipush 893, 3) := by decide +kernel
theorem d62m4_102 : decode prog_62_method_4_code 102 = .ok (.if_icmp .le 108, 3) := by decide +kernel
theorem d62m4_77 : decode prog_62_method_4_code 77 = .ok (.iload_n 0, 1) := by decide +kernel
theorem d62m4_78 : decode prog_62_method_4_code 78 = .ok (.sipush 248, 3) := by decide +kernel
theorem d62m4_81 : decode prog_62_method_4_code 81 = .ok (.if_icmp .lt 10, 3) := by decide +kernel
theorem d62m4_84 : decode prog_62_method_4_code 84 = .ok (.iload_n 0, 1) := by decide +kernel
theorem d62m4_85 : decode prog_62_method_4_code 85 = .ok (.sipush 767, 3) := by decide +kernel
theorem d62m4_88 : decode prog_62_method_4_code 88 = .ok (.if_icmp .le 122, 3) := by decide +kernel
theorem d62m4_63 : decode prog_62_method_4_code 63 = .ok (.iload_n 0, 1) := by decide +kernel
theorem d62m4_64 : decode prog_62_method_4_code 64 = .ok (.sipush 216, 3) := by decide +kernel
theorem d62m4_67 : decode prog_62_method_4_code 67 = .ok (.if_icmp .lt 10, 3) := by decide +kernel
theorem d62m4_70 : decode prog_62_method_4_code 70 = .ok (.iload_n 0, 1) := by decide +kernel
theorem d62m4_71 : decode prog_62_method_4_code 71 = .ok (.sipush 246, 3) := by decide +kernel
theorem d62m4_74 : decode prog_62_method_4_code 74 = .ok (.if_icmp .le 136, 3) := by decide +kernel
theorem d62m4_43 : decode prog_62_method_4_code 43 = .ok (.iconst 1, 1) := by decide +kernel
theorem d62m4_44 : decode prog_62_method_4_code 44 = .ok (.goto 4, 3) := by decide +kernel
theorem d62m4_48 : decode prog_62_method_4_code 48 = .ok (.ireturn, 1) := by decide +kernel
theorem d62m4_31 : decode prog_62_method_4_code 31 = .ok (.iload_n 0, 1) := by decide +kernel
theorem d62m4_32 : decode prog_62_method_4_code 32 = .ok (.bipush 95, 2) := by decide +kernel
theorem d62m4_34 : decode prog_62_method_4_code 34 = .ok (.if_icmp .eq 9, 3) := by decide +kernel
theorem d62m4_37 : decode prog_62_method_4_code 37 = .ok (.iload_n 0, 1) := by decide +kernel
theorem d62m4_38 : decode prog_62_method_4_code 38 = .ok (.bipush 58, 2) := by decide +kernel
theorem d62m4_40 : decode prog_62_method_4_code 40 = .ok (.if_icmp .ne 7, 3) := by decide +kernel
theorem d62m4_47 : decode prog_62_method_4_code 47 = .ok (.iconst 0, 1) := by decide +kernel
theorem d62m4_19 : decode prog_62_method_4_code 19 = .ok (.iload_n 0, 1) := by decide +kernel
theorem d62m4_20 : decode prog_62_method_4_code 20 = .ok (.bipush 65, 2) := by decide +kernel
theorem d62m4_22 : decode prog_62_method_4_code 22 = .ok (.if_icmp .lt 9, 3) := by decide +kernel
theorem d62m4_25 : decode prog_62_method_4_code 25 = .ok (.iload_n 0, 1) := by decide +kernel
theorem d62m4_26 : decode prog_62_method_4_code 26 = .ok (.bipush 90, 2) := by decide +kernel
theorem d62m4_28 : decode prog_62_method_4_code 28 = .ok (.if_icmp .le 15, 3) := by decide +kernel
theorem pn_2 : plainName "com/example/guarded_expansion/guardedexpansion/XmlChars" = true := by first | (simp [plainName, overriddenIn]; done) | decide +kernel
theorem d62m4_0 : decode prog_62_method_4_code 0 = .ok (.iload_n 0, 1) := by decide +kernel
theorem d62m4_1 : decode prog_62_method_4_code 1 = .ok (.sipush 128, 3) := by decide +kernel
theorem d62m4_4 : decode prog_62_method_4_code 4 = .ok (.if_icmp .ge 45, 3) := by decide +kernel
theorem d62m4_7 : decode prog_62_method_4_code 7 = .ok (.iload_n 0, 1) := by decide +kernel
theorem d62m4_8 : decode prog_62_method_4_code 8 = .ok (.bipush 97, 2) := by decide +kernel
theorem d62m4_10 : decode prog_62_method_4_code 10 = .ok (.if_icmp .lt 9, 3) := by decide +kernel
theorem d62m4_13 : decode prog_62_method_4_code 13 = .ok (.iload_n 0, 1) := by decide +kernel
theorem d62m4_14 : decode prog_62_method_4_code 14 = .ok (.bipush 122, 2) := by decide +kernel
theorem d62m4_16 : decode prog_62_method_4_code 16 = .ok (.if_icmp .le 27, 3) := by decide +kernel
theorem d62m4_49 : decode prog_62_method_4_code 49 = .ok (.iload_n 0, 1) := by decide +kernel
theorem d62m4_50 : decode prog_62_method_4_code 50 = .ok (.sipush 192, 3) := by decide +kernel
theorem d62m4_53 : decode prog_62_method_4_code 53 = .ok (.if_icmp .lt 10, 3) := by decide +kernel
theorem d62m4_56 : decode prog_62_method_4_code 56 = .ok (.iload_n 0, 1) := by decide +kernel
theorem d62m4_57 : decode prog_62_method_4_code 57 = .ok (.sipush 214, 3) := by decide +kernel
theorem d62m4_60 : decode prog_62_method_4_code 60 = .ok (.if_icmp .le 150, 3) := by decide +kernel
theorem ef_isN (m : MethodId) (x0 : Int32) : entryFrame m #[(.int x0)] 1 = mkF m 0 #[.val (.int x0)] [] := by first | (simp [entryFrame, mkF, argsToLocals, Value.category]; done) | rfl
def Q_isN (Z : State) (p0 : Int32) (h0 : Heap) (n0 : Nat) (v : Option Value) (h : Heap) (L : List Loc) : Prop := v = some (.int (f_isN p0)) ∧ L = [] ∧ h = h0
set_option maxRecDepth 65536 in
set_option maxHeartbeats 40000000 in
theorem rm_isN (l : Launch) (Z : State) (a0 : Array Value) (hw : ∀ d ∈ tables_1, d.before a0 Z = true) (ws : List Jvm.Cond) (p0 : Int32) (h0 : Heap) (n0 : Nat) (Z0 : n0 ≤ h0.size) :
    MetFree l (⟨"com/example/guarded_expansion/guardedexpansion/XmlChars", "isNameStartChar", "(I)Z"⟩ : MethodName) (head1 (Jvm.Cond.code (⟨"com/example/guarded_expansion/guardedexpansion/XmlChars", "isNameStartChar", "(I)Z"⟩ : MethodName) prog_62_method_4_code 1 (some .boolean) :: ws) ({ frames := 0, cells := 0, slots := 0, locals := 0 } : Room)) (fun a_ U => a_ = #[(.int p0)] ∧ Z.Warmed39 U.vm ∧ U.heap = h0) (fun _ _ _ _ _ => True) (fun _ U o U' => ∃ v L, o = .returned v ∧ Q_isN Z p0 h0 n0 v U'.heap L ∧ FrameEnd U o U' L ({ frames := 0, cells := 0, slots := 0, locals := 0 } : Room).cells ({ frames := 0, cells := 0, slots := 0, locals := 0 } : Room).slots) := by
  refine MetFree.of_bodySF (plainFor_of_name pn_2) hisR ?_
  intro p e s m args below meth c s₁ Bd hml0 hP hK
  obtain ⟨rfl, hZ, hh⟩ := hP
  have hx := Bd.exec
  have hby := Bd.bytes
  have hlk : meth.locks = false := Bd.notSynchronized
  have hml : c.maxLocals = 1 := hml0
  have hown : s.vm.findClass "com/example/guarded_expansion/guardedexpansion/XmlChars" = some m.cls := findClass_of_methodNamed Bd.named
  have hnm := (name_of_methodNamed Bd.named Bd.method).1
  have X0 : Stand p l e ({ frames := 0, cells := 0, slots := 0, locals := 0 } : Room) s m #[(.int p0)] below meth c s₁ [] 0 0 := Stand.of_body Bd
  have e0 : s₁.heap = h0 := by rw [← hh, Bd.state]; rfl
  have N0 := Fr.nil n0
  have J214 : ∀ (T : State), Stand p l e ({ frames := 0, cells := 0, slots := 0, locals := 0 } : Room) s m #[(.int p0)] below meth c T [] 0 0 → T.heap = h0 → f_isN p0 = f_isN_214 p0 → OGets p e below (OLeaves s (Q_isN Z p0 h0 n0 ) ({ frames := 0, cells := 0, slots := 0, locals := 0 } : Room).cells ({ frames := 0, cells := 0, slots := 0, locals := 0 } : Room).slots) (T.setTop (mkF m 214 #[.val (.int p0)] [])) := by
    intro T X eT hv'
    have hv : f_isN p0 = (0 : Int32) := hv'
    show OGets p e below _ (T.setTop (mkF m 214 #[.val (.int p0)] []))
    refine OGets.step (fun _ => XS.iconst X.here hx rfl (hb hby d62m4_214)) ?_
    show OGets p e below _ (T.setTop (mkF m 215 #[.val (.int p0)] [(.int (0 : Int32))]))
    refine OGets.retN X hx hlk (t := .boolean) Bd.returns (by simp) (hb hby d62m4_215) (Nat.le_of_ble_eq_true rfl) (Nat.le_of_ble_eq_true rfl) ?_
    exact ⟨congrArg (fun z => some (Value.int z)) hv.symm, rfl, eT⟩
  have J210 : ∀ (T : State), Stand p l e ({ frames := 0, cells := 0, slots := 0, locals := 0 } : Room) s m #[(.int p0)] below meth c T [] 0 0 → T.heap = h0 → f_isN p0 = f_isN_210 p0 → OGets p e below (OLeaves s (Q_isN Z p0 h0 n0 ) ({ frames := 0, cells := 0, slots := 0, locals := 0 } : Room).cells ({ frames := 0, cells := 0, slots := 0, locals := 0 } : Room).slots) (T.setTop (mkF m 210 #[.val (.int p0)] [])) := by
    intro T X eT hv'
    have hv : f_isN p0 = (1 : Int32) := hv'
    show OGets p e below _ (T.setTop (mkF m 210 #[.val (.int p0)] []))
    refine OGets.step (fun _ => XS.iconst X.here hx rfl (hb hby d62m4_210)) ?_
    show OGets p e below _ (T.setTop (mkF m 211 #[.val (.int p0)] [(.int (1 : Int32))]))
    refine OGets.step (fun _ => XS.goto X.here hx rfl (pc0 := 211) (pc' := 215) rfl (hb hby d62m4_211) (by decide) (by decide)) ?_
    show OGets p e below _ (T.setTop (mkF m 215 #[.val (.int p0)] [(.int (1 : Int32))]))
    refine OGets.retN X hx hlk (t := .boolean) Bd.returns (by simp) (hb hby d62m4_215) (Nat.le_of_ble_eq_true rfl) (Nat.le_of_ble_eq_true rfl) ?_
    exact ⟨congrArg (fun z => some (Value.int z)) hv.symm, rfl, eT⟩
  have J198 : ∀ (T : State), Stand p l e ({ frames := 0, cells := 0, slots := 0, locals := 0 } : Room) s m #[(.int p0)] below meth c T [] 0 0 → T.heap = h0 → f_isN p0 = f_isN_198 p0 → OGets p e below (OLeaves s (Q_isN Z p0 h0 n0 ) ({ frames := 0, cells := 0, slots := 0, locals := 0 } : Room).cells ({ frames := 0, cells := 0, slots := 0, locals := 0 } : Room).slots) (T.setTop (mkF m 198 #[.val (.int p0)] [])) := by
    intro T X eT hv'
    have hv : f_isN p0 = (if p0 < (65536 : Int32) then f_isN_214 p0 else (if (983039 : Int32) < p0 then f_isN_214 p0 else f_isN_210 p0)) := hv'
    show OGets p e below _ (T.setTop (mkF m 198 #[.val (.int p0)] []))
    refine OGets.step (fun _ => XS.iloadN X.here hx rfl (hb hby d62m4_198) rfl) ?_
    show OGets p e below _ (T.setTop (mkF m 199 #[.val (.int p0)] [(.int p0)]))
    refine OGets.step (fun _ => X.ldcInt hx hown (mvT hZ (hw _ (List.mem_of_getElem? (i := 28) rfl))) (g := (mkF m 199 #[.val (.int p0)] [(.int p0)])) rfl (hb hby d62m4_199) _) ?_
    show OGets p e below _ (T.setTop (mkF m 201 #[.val (.int p0)] [(.int (65536 : Int32)), (.int p0)]))
    by_cases hc201_69 : p0 < (65536 : Int32)
    · refine OGets.step (fun _ => XS.icmpYes X.here hx rfl (pc0 := 201) (pc' := 214) rfl (hb hby d62m4_201) rfl (tlt hc201_69).1 (by decide) (by decide)) ?_
      have hv70 := hv.trans (if_pos hc201_69)
      show OGets p e below _ (T.setTop (mkF m 214 #[.val (.int p0)] []))
      exact J214 T X eT hv70
    · refine OGets.step (fun _ => XS.icmpNo X.here hx rfl (hb hby d62m4_201) rfl (flt hc201_69).1) ?_
      have hv71 := hv.trans (if_neg hc201_69)
      show OGets p e below _ (T.setTop (mkF m 204 #[.val (.int p0)] []))
      refine OGets.step (fun _ => XS.iloadN X.here hx rfl (hb hby d62m4_204) rfl) ?_
      show OGets p e below _ (T.setTop (mkF m 205 #[.val (.int p0)] [(.int p0)]))
      refine OGets.step (fun _ => X.ldcInt hx hown (mvT hZ (hw _ (List.mem_of_getElem? (i := 32) rfl))) (g := (mkF m 205 #[.val (.int p0)] [(.int p0)])) rfl (hb hby d62m4_205) _) ?_
      show OGets p e below _ (T.setTop (mkF m 207 #[.val (.int p0)] [(.int (983039 : Int32)), (.int p0)]))
      by_cases hc207_72 : (983039 : Int32) < p0
      · refine OGets.step (fun _ => XS.icmpYes X.here hx rfl (pc0 := 207) (pc' := 214) rfl (hb hby d62m4_207) rfl (tlt hc207_72).2.2.1 (by decide) (by decide)) ?_
        have hv73 := hv71.trans (if_pos hc207_72)
        show OGets p e below _ (T.setTop (mkF m 214 #[.val (.int p0)] []))
        exact J214 T X eT hv73
      · refine OGets.step (fun _ => XS.icmpNo X.here hx rfl (hb hby d62m4_207) rfl (flt hc207_72).2.2.1) ?_
        have hv74 := hv71.trans (if_neg hc207_72)
        show OGets p e below _ (T.setTop (mkF m 210 #[.val (.int p0)] []))
        exact J210 T X eT hv74
  have J186 : ∀ (T : State), Stand p l e ({ frames := 0, cells := 0, slots := 0, locals := 0 } : Room) s m #[(.int p0)] below meth c T [] 0 0 → T.heap = h0 → f_isN p0 = f_isN_186 p0 → OGets p e below (OLeaves s (Q_isN Z p0 h0 n0 ) ({ frames := 0, cells := 0, slots := 0, locals := 0 } : Room).cells ({ frames := 0, cells := 0, slots := 0, locals := 0 } : Room).slots) (T.setTop (mkF m 186 #[.val (.int p0)] [])) := by
    intro T X eT hv'
    have hv : f_isN p0 = (if p0 < (65008 : Int32) then f_isN_198 p0 else (if (65533 : Int32) < p0 then f_isN_198 p0 else f_isN_210 p0)) := hv'
    show OGets p e below _ (T.setTop (mkF m 186 #[.val (.int p0)] []))
    refine OGets.step (fun _ => XS.iloadN X.here hx rfl (hb hby d62m4_186) rfl) ?_
    show OGets p e below _ (T.setTop (mkF m 187 #[.val (.int p0)] [(.int p0)]))
    refine OGets.step (fun _ => X.ldcInt hx hown (mvT hZ (hw _ (List.mem_of_getElem? (i := 27) rfl))) (g := (mkF m 187 #[.val (.int p0)] [(.int p0)])) rfl (hb hby d62m4_187) _) ?_
    show OGets p e below _ (T.setTop (mkF m 189 #[.val (.int p0)] [(.int (65008 : Int32)), (.int p0)]))
    by_cases hc189_75 : p0 < (65008 : Int32)
    · refine OGets.step (fun _ => XS.icmpYes X.here hx rfl (pc0 := 189) (pc' := 198) rfl (hb hby d62m4_189) rfl (tlt hc189_75).1 (by decide) (by decide)) ?_
      have hv76 := hv.trans (if_pos hc189_75)
      show OGets p e below _ (T.setTop (mkF m 198 #[.val (.int p0)] []))
      exact J198 T X eT hv76
    · refine OGets.step (fun _ => XS.icmpNo X.here hx rfl (hb hby d62m4_189) rfl (flt hc189_75).1) ?_
      have hv77 := hv.trans (if_neg hc189_75)
      show OGets p e below _ (T.setTop (mkF m 192 #[.val (.int p0)] []))
      refine OGets.step (fun _ => XS.iloadN X.here hx rfl (hb hby d62m4_192) rfl) ?_
      show OGets p e below _ (T.setTop (mkF m 193 #[.val (.int p0)] [(.int p0)]))
      refine OGets.step (fun _ => X.ldcInt hx hown (mvT hZ (hw _ (List.mem_of_getElem? (i := 31) rfl))) (g := (mkF m 193 #[.val (.int p0)] [(.int p0)])) rfl (hb hby d62m4_193) _) ?_
      show OGets p e below _ (T.setTop (mkF m 195 #[.val (.int p0)] [(.int (65533 : Int32)), (.int p0)]))
      by_cases hc195_78 : (65533 : Int32) < p0
      · refine OGets.step (fun _ => XS.icmpNo X.here hx rfl (hb hby d62m4_195) rfl (tlt hc195_78).2.2.2) ?_
        have hv79 := hv77.trans (if_pos hc195_78)
        show OGets p e below _ (T.setTop (mkF m 198 #[.val (.int p0)] []))
        exact J198 T X eT hv79
      · refine OGets.step (fun _ => XS.icmpYes X.here hx rfl (pc0 := 195) (pc' := 210) rfl (hb hby d62m4_195) rfl (flt hc195_78).2.2.2 (by decide) (by decide)) ?_
        have hv80 := hv77.trans (if_neg hc195_78)
        show OGets p e below _ (T.setTop (mkF m 210 #[.val (.int p0)] []))
        exact J210 T X eT hv80
  have J174 : ∀ (T : State), Stand p l e ({ frames := 0, cells := 0, slots := 0, locals := 0 } : Room) s m #[(.int p0)] below meth c T [] 0 0 → T.heap = h0 → f_isN p0 = f_isN_174 p0 → OGets p e below (OLeaves s (Q_isN Z p0 h0 n0 ) ({ frames := 0, cells := 0, slots := 0, locals := 0 } : Room).cells ({ frames := 0, cells := 0, slots := 0, locals := 0 } : Room).slots) (T.setTop (mkF m 174 #[.val (.int p0)] [])) := by
    intro T X eT hv'
    have hv : f_isN p0 = (if p0 < (63744 : Int32) then f_isN_186 p0 else (if (64975 : Int32) < p0 then f_isN_186 p0 else f_isN_210 p0)) := hv'
    show OGets p e below _ (T.setTop (mkF m 174 #[.val (.int p0)] []))
    refine OGets.step (fun _ => XS.iloadN X.here hx rfl (hb hby d62m4_174) rfl) ?_
    show OGets p e below _ (T.setTop (mkF m 175 #[.val (.int p0)] [(.int p0)]))
    refine OGets.step (fun _ => X.ldcInt hx hown (mvT hZ (hw _ (List.mem_of_getElem? (i := 26) rfl))) (g := (mkF m 175 #[.val (.int p0)] [(.int p0)])) rfl (hb hby d62m4_175) _) ?_
    show OGets p e below _ (T.setTop (mkF m 177 #[.val (.int p0)] [(.int (63744 : Int32)), (.int p0)]))
    by_cases hc177_81 : p0 < (63744 : Int32)
    · refine OGets.step (fun _ => XS.icmpYes X.here hx rfl (pc0 := 177) (pc' := 186) rfl (hb hby d62m4_177) rfl (tlt hc177_81).1 (by decide) (by decide)) ?_
      have hv82 := hv.trans (if_pos hc177_81)
      show OGets p e below _ (T.setTop (mkF m 186 #[.val (.int p0)] []))
      exact J186 T X eT hv82
    · refine OGets.step (fun _ => XS.icmpNo X.here hx rfl (hb hby d62m4_177) rfl (flt hc177_81).1) ?_
      have hv83 := hv.trans (if_neg hc177_81)
      show OGets p e below _ (T.setTop (mkF m 180 #[.val (.int p0)] []))
      refine OGets.step (fun _ => XS.iloadN X.here hx rfl (hb hby d62m4_180) rfl) ?_
      show OGets p e below _ (T.setTop (mkF m 181 #[.val (.int p0)] [(.int p0)]))
      refine OGets.step (fun _ => X.ldcInt hx hown (mvT hZ (hw _ (List.mem_of_getElem? (i := 30) rfl))) (g := (mkF m 181 #[.val (.int p0)] [(.int p0)])) rfl (hb hby d62m4_181) _) ?_
      show OGets p e below _ (T.setTop (mkF m 183 #[.val (.int p0)] [(.int (64975 : Int32)), (.int p0)]))
      by_cases hc183_84 : (64975 : Int32) < p0
      · refine OGets.step (fun _ => XS.icmpNo X.here hx rfl (hb hby d62m4_183) rfl (tlt hc183_84).2.2.2) ?_
        have hv85 := hv83.trans (if_pos hc183_84)
        show OGets p e below _ (T.setTop (mkF m 186 #[.val (.int p0)] []))
        exact J186 T X eT hv85
      · refine OGets.step (fun _ => XS.icmpYes X.here hx rfl (pc0 := 183) (pc' := 210) rfl (hb hby d62m4_183) rfl (flt hc183_84).2.2.2 (by decide) (by decide)) ?_
        have hv86 := hv83.trans (if_neg hc183_84)
        show OGets p e below _ (T.setTop (mkF m 210 #[.val (.int p0)] []))
        exact J210 T X eT hv86
  have J161 : ∀ (T : State), Stand p l e ({ frames := 0, cells := 0, slots := 0, locals := 0 } : Room) s m #[(.int p0)] below meth c T [] 0 0 → T.heap = h0 → f_isN p0 = f_isN_161 p0 → OGets p e below (OLeaves s (Q_isN Z p0 h0 n0 ) ({ frames := 0, cells := 0, slots := 0, locals := 0 } : Room).cells ({ frames := 0, cells := 0, slots := 0, locals := 0 } : Room).slots) (T.setTop (mkF m 161 #[.val (.int p0)] [])) := by
    intro T X eT hv'
    have hv : f_isN p0 = (if p0 < (12289 : Int32) then f_isN_174 p0 else (if (55295 : Int32) < p0 then f_isN_174 p0 else f_isN_210 p0)) := hv'
    show OGets p e below _ (T.setTop (mkF m 161 #[.val (.int p0)] []))
    refine OGets.step (fun _ => XS.iloadN X.here hx rfl (hb hby d62m4_161) rfl) ?_
    show OGets p e below _ (T.setTop (mkF m 162 #[.val (.int p0)] [(.int p0)]))
    refine OGets.step (fun _ => XS.sipush X.here hx rfl (hb hby d62m4_162)) ?_
    show OGets p e below _ (T.setTop (mkF m 165 #[.val (.int p0)] [(.int (12289 : Int32)), (.int p0)]))
    by_cases hc165_87 : p0 < (12289 : Int32)
    · refine OGets.step (fun _ => XS.icmpYes X.here hx rfl (pc0 := 165) (pc' := 174) rfl (hb hby d62m4_165) rfl (tlt hc165_87).1 (by decide) (by decide)) ?_
      have hv88 := hv.trans (if_pos hc165_87)
      show OGets p e below _ (T.setTop (mkF m 174 #[.val (.int p0)] []))
      exact J174 T X eT hv88
    · refine OGets.step (fun _ => XS.icmpNo X.here hx rfl (hb hby d62m4_165) rfl (flt hc165_87).1) ?_
      have hv89 := hv.trans (if_neg hc165_87)
      show OGets p e below _ (T.setTop (mkF m 168 #[.val (.int p0)] []))
      refine OGets.step (fun _ => XS.iloadN X.here hx rfl (hb hby d62m4_168) rfl) ?_
      show OGets p e below _ (T.setTop (mkF m 169 #[.val (.int p0)] [(.int p0)]))
      refine OGets.step (fun _ => X.ldcInt hx hown (mvT hZ (hw _ (List.mem_of_getElem? (i := 29) rfl))) (g := (mkF m 169 #[.val (.int p0)] [(.int p0)])) rfl (hb hby d62m4_169) _) ?_
      show OGets p e below _ (T.setTop (mkF m 171 #[.val (.int p0)] [(.int (55295 : Int32)), (.int p0)]))
      by_cases hc171_90 : (55295 : Int32) < p0
      · refine OGets.step (fun _ => XS.icmpNo X.here hx rfl (hb hby d62m4_171) rfl (tlt hc171_90).2.2.2) ?_
        have hv91 := hv89.trans (if_pos hc171_90)
        show OGets p e below _ (T.setTop (mkF m 174 #[.val (.int p0)] []))
        exact J174 T X eT hv91
      · refine OGets.step (fun _ => XS.icmpYes X.here hx rfl (pc0 := 171) (pc' := 210) rfl (hb hby d62m4_171) rfl (flt hc171_90).2.2.2 (by decide) (by decide)) ?_
        have hv92 := hv89.trans (if_neg hc171_90)
        show OGets p e below _ (T.setTop (mkF m 210 #[.val (.int p0)] []))
        exact J210 T X eT hv92
  have J147 : ∀ (T : State), Stand p l e ({ frames := 0, cells := 0, slots := 0, locals := 0 } : Room) s m #[(.int p0)] below meth c T [] 0 0 → T.heap = h0 → f_isN p0 = f_isN_147 p0 → OGets p e below (OLeaves s (Q_isN Z p0 h0 n0 ) ({ frames := 0, cells := 0, slots := 0, locals := 0 } : Room).cells ({ frames := 0, cells := 0, slots := 0, locals := 0 } : Room).slots) (T.setTop (mkF m 147 #[.val (.int p0)] [])) := by
    intro T X eT hv'
    have hv : f_isN p0 = (if p0 < (11264 : Int32) then f_isN_161 p0 else (if (12271 : Int32) < p0 then f_isN_161 p0 else f_isN_210 p0)) := hv'
    show OGets p e below _ (T.setTop (mkF m 147 #[.val (.int p0)] []))
    refine OGets.step (fun _ => XS.iloadN X.here hx rfl (hb hby d62m4_147) rfl) ?_
    show OGets p e below _ (T.setTop (mkF m 148 #[.val (.int p0)] [(.int p0)]))
    refine OGets.step (fun _ => XS.sipush X.here hx rfl (hb hby d62m4_148)) ?_
    show OGets p e below _ (T.setTop (mkF m 151 #[.val (.int p0)] [(.int (11264 : Int32)), (.int p0)]))
    by_cases hc151_93 : p0 < (11264 : Int32)
    · refine OGets.step (fun _ => XS.icmpYes X.here hx rfl (pc0 := 151) (pc' := 161) rfl (hb hby d62m4_151) rfl (tlt hc151_93).1 (by decide) (by decide)) ?_
      have hv94 := hv.trans (if_pos hc151_93)
      show OGets p e below _ (T.setTop (mkF m 161 #[.val (.int p0)] []))
      exact J161 T X eT hv94
    · refine OGets.step (fun _ => XS.icmpNo X.here hx rfl (hb hby d62m4_151) rfl (flt hc151_93).1) ?_
      have hv95 := hv.trans (if_neg hc151_93)
      show OGets p e below _ (T.setTop (mkF m 154 #[.val (.int p0)] []))
      refine OGets.step (fun _ => XS.iloadN X.here hx rfl (hb hby d62m4_154) rfl) ?_
      show OGets p e below _ (T.setTop (mkF m 155 #[.val (.int p0)] [(.int p0)]))
      refine OGets.step (fun _ => XS.sipush X.here hx rfl (hb hby d62m4_155)) ?_
      show OGets p e below _ (T.setTop (mkF m 158 #[.val (.int p0)] [(.int (12271 : Int32)), (.int p0)]))
      by_cases hc158_96 : (12271 : Int32) < p0
      · refine OGets.step (fun _ => XS.icmpNo X.here hx rfl (hb hby d62m4_158) rfl (tlt hc158_96).2.2.2) ?_
        have hv97 := hv95.trans (if_pos hc158_96)
        show OGets p e below _ (T.setTop (mkF m 161 #[.val (.int p0)] []))
        exact J161 T X eT hv97
      · refine OGets.step (fun _ => XS.icmpYes X.here hx rfl (pc0 := 158) (pc' := 210) rfl (hb hby d62m4_158) rfl (flt hc158_96).2.2.2 (by decide) (by decide)) ?_
        have hv98 := hv95.trans (if_neg hc158_96)
        show OGets p e below _ (T.setTop (mkF m 210 #[.val (.int p0)] []))
        exact J210 T X eT hv98
  have J133 : ∀ (T : State), Stand p l e ({ frames := 0, cells := 0, slots := 0, locals := 0 } : Room) s m #[(.int p0)] below meth c T [] 0 0 → T.heap = h0 → f_isN p0 = f_isN_133 p0 → OGets p e below (OLeaves s (Q_isN Z p0 h0 n0 ) ({ frames := 0, cells := 0, slots := 0, locals := 0 } : Room).cells ({ frames := 0, cells := 0, slots := 0, locals := 0 } : Room).slots) (T.setTop (mkF m 133 #[.val (.int p0)] [])) := by
    intro T X eT hv'
    have hv : f_isN p0 = (if p0 < (8304 : Int32) then f_isN_147 p0 else (if (8591 : Int32) < p0 then f_isN_147 p0 else f_isN_210 p0)) := hv'
    show OGets p e below _ (T.setTop (mkF m 133 #[.val (.int p0)] []))
    refine OGets.step (fun _ => XS.iloadN X.here hx rfl (hb hby d62m4_133) rfl) ?_
    show OGets p e below _ (T.setTop (mkF m 134 #[.val (.int p0)] [(.int p0)]))
    refine OGets.step (fun _ => XS.sipush X.here hx rfl (hb hby d62m4_134)) ?_
    show OGets p e below _ (T.setTop (mkF m 137 #[.val (.int p0)] [(.int (8304 : Int32)), (.int p0)]))
    by_cases hc137_99 : p0 < (8304 : Int32)
    · refine OGets.step (fun _ => XS.icmpYes X.here hx rfl (pc0 := 137) (pc' := 147) rfl (hb hby d62m4_137) rfl (tlt hc137_99).1 (by decide) (by decide)) ?_
      have hv100 := hv.trans (if_pos hc137_99)
      show OGets p e below _ (T.setTop (mkF m 147 #[.val (.int p0)] []))
      exact J147 T X eT hv100
    · refine OGets.step (fun _ => XS.icmpNo X.here hx rfl (hb hby d62m4_137) rfl (flt hc137_99).1) ?_
      have hv101 := hv.trans (if_neg hc137_99)
      show OGets p e below _ (T.setTop (mkF m 140 #[.val (.int p0)] []))
      refine OGets.step (fun _ => XS.iloadN X.here hx rfl (hb hby d62m4_140) rfl) ?_
      show OGets p e below _ (T.setTop (mkF m 141 #[.val (.int p0)] [(.int p0)]))
      refine OGets.step (fun _ => XS.sipush X.here hx rfl (hb hby d62m4_141)) ?_
      show OGets p e below _ (T.setTop (mkF m 144 #[.val (.int p0)] [(.int (8591 : Int32)), (.int p0)]))
      by_cases hc144_102 : (8591 : Int32) < p0
      · refine OGets.step (fun _ => XS.icmpNo X.here hx rfl (hb hby d62m4_144) rfl (tlt hc144_102).2.2.2) ?_
        have hv103 := hv101.trans (if_pos hc144_102)
        show OGets p e below _ (T.setTop (mkF m 147 #[.val (.int p0)] []))
        exact J147 T X eT hv103
      · refine OGets.step (fun _ => XS.icmpYes X.here hx rfl (pc0 := 144) (pc' := 210) rfl (hb hby d62m4_144) rfl (flt hc144_102).2.2.2 (by decide) (by decide)) ?_
        have hv104 := hv101.trans (if_neg hc144_102)
        show OGets p e below _ (T.setTop (mkF m 210 #[.val (.int p0)] []))
        exact J210 T X eT hv104
  have J119 : ∀ (T : State), Stand p l e ({ frames := 0, cells := 0, slots := 0, locals := 0 } : Room) s m #[(.int p0)] below meth c T [] 0 0 → T.heap = h0 → f_isN p0 = f_isN_119 p0 → OGets p e below (OLeaves s (Q_isN Z p0 h0 n0 ) ({ frames := 0, cells := 0, slots := 0, locals := 0 } : Room).cells ({ frames := 0, cells := 0, slots := 0, locals := 0 } : Room).slots) (T.setTop (mkF m 119 #[.val (.int p0)] [])) := by
    intro T X eT hv'
    have hv : f_isN p0 = (if p0 < (8204 : Int32) then f_isN_133 p0 else (if (8205 : Int32) < p0 then f_isN_133 p0 else f_isN_210 p0)) := hv'
    show OGets p e below _ (T.setTop (mkF m 119 #[.val (.int p0)] []))
    refine OGets.step (fun _ => XS.iloadN X.here hx rfl (hb hby d62m4_119) rfl) ?_
    show OGets p e below _ (T.setTop (mkF m 120 #[.val (.int p0)] [(.int p0)]))
    refine OGets.step (fun _ => XS.sipush X.here hx rfl (hb hby d62m4_120)) ?_
    show OGets p e below _ (T.setTop (mkF m 123 #[.val (.int p0)] [(.int (8204 : Int32)), (.int p0)]))
    by_cases hc123_105 : p0 < (8204 : Int32)
    · refine OGets.step (fun _ => XS.icmpYes X.here hx rfl (pc0 := 123) (pc' := 133) rfl (hb hby d62m4_123) rfl (tlt hc123_105).1 (by decide) (by decide)) ?_
      have hv106 := hv.trans (if_pos hc123_105)
      show OGets p e below _ (T.setTop (mkF m 133 #[.val (.int p0)] []))
      exact J133 T X eT hv106
    · refine OGets.step (fun _ => XS.icmpNo X.here hx rfl (hb hby d62m4_123) rfl (flt hc123_105).1) ?_
      have hv107 := hv.trans (if_neg hc123_105)
      show OGets p e below _ (T.setTop (mkF m 126 #[.val (.int p0)] []))
      refine OGets.step (fun _ => XS.iloadN X.here hx rfl (hb hby d62m4_126) rfl) ?_
      show OGets p e below _ (T.setTop (mkF m 127 #[.val (.int p0)] [(.int p0)]))
      refine OGets.step (fun _ => XS.sipush X.here hx rfl (hb hby d62m4_127)) ?_
      show OGets p e below _ (T.setTop (mkF m 130 #[.val (.int p0)] [(.int (8205 : Int32)), (.int p0)]))
      by_cases hc130_108 : (8205 : Int32) < p0
      · refine OGets.step (fun _ => XS.icmpNo X.here hx rfl (hb hby d62m4_130) rfl (tlt hc130_108).2.2.2) ?_
        have hv109 := hv107.trans (if_pos hc130_108)
        show OGets p e below _ (T.setTop (mkF m 133 #[.val (.int p0)] []))
        exact J133 T X eT hv109
      · refine OGets.step (fun _ => XS.icmpYes X.here hx rfl (pc0 := 130) (pc' := 210) rfl (hb hby d62m4_130) rfl (flt hc130_108).2.2.2 (by decide) (by decide)) ?_
        have hv110 := hv107.trans (if_neg hc130_108)
        show OGets p e below _ (T.setTop (mkF m 210 #[.val (.int p0)] []))
        exact J210 T X eT hv110
  have J105 : ∀ (T : State), Stand p l e ({ frames := 0, cells := 0, slots := 0, locals := 0 } : Room) s m #[(.int p0)] below meth c T [] 0 0 → T.heap = h0 → f_isN p0 = f_isN_105 p0 → OGets p e below (OLeaves s (Q_isN Z p0 h0 n0 ) ({ frames := 0, cells := 0, slots := 0, locals := 0 } : Room).cells ({ frames := 0, cells := 0, slots := 0, locals := 0 } : Room).slots) (T.setTop (mkF m 105 #[.val (.int p0)] [])) := by
    intro T X eT hv'
    have hv : f_isN p0 = (if p0 < (895 : Int32) then f_isN_119 p0 else (if (8191 : Int32) < p0 then f_isN_119 p0 else f_isN_210 p0)) := hv'
    show OGets p e below _ (T.setTop (mkF m 105 #[.val (.int p0)] []))
    refine OGets.step (fun _ => XS.iloadN X.here hx rfl (hb hby d62m4_105) rfl) ?_
    show OGets p e below _ (T.setTop (mkF m 106 #[.val (.int p0)] [(.int p0)]))
    refine OGets.step (fun _ => XS.sipush X.here hx rfl (hb hby d62m4_106)) ?_
    show OGets p e below _ (T.setTop (mkF m 109 #[.val (.int p0)] [(.int (895 : Int32)), (.int p0)]))
    by_cases hc109_111 : p0 < (895 : Int32)
    · refine OGets.step (fun _ => XS.icmpYes X.here hx rfl (pc0 := 109) (pc' := 119) rfl (hb hby d62m4_109) rfl (tlt hc109_111).1 (by decide) (by decide)) ?_
      have hv112 := hv.trans (if_pos hc109_111)
      show OGets p e below _ (T.setTop (mkF m 119 #[.val (.int p0)] []))
      exact J119 T X eT hv112
    · refine OGets.step (fun _ => XS.icmpNo X.here hx rfl (hb hby d62m4_109) rfl (flt hc109_111).1) ?_
      have hv113 := hv.trans (if_neg hc109_111)
      show OGets p e below _ (T.setTop (mkF m 112 #[.val (.int p0)] []))
      refine OGets.step (fun _ => XS.iloadN X.here hx rfl (hb hby d62m4_112) rfl) ?_
      show OGets p e below _ (T.setTop (mkF m 113 #[.val (.int p0)] [(.int p0)]))
      refine OGets.step (fun _ => XS.sipush X.here hx rfl (hb hby d62m4_113)) ?_
      show OGets p e below _ (T.setTop (mkF m 116 #[.val (.int p0)] [(.int (8191 : Int32)), (.int p0)]))
      by_cases hc116_114 : (8191 : Int32) < p0
      · refine OGets.step (fun _ => XS.icmpNo X.here hx rfl (hb hby d62m4_116) rfl (tlt hc116_114).2.2.2) ?_
        have hv115 := hv113.trans (if_pos hc116_114)
        show OGets p e below _ (T.setTop (mkF m 119 #[.val (.int p0)] []))
        exact J119 T X eT hv115
      · refine OGets.step (fun _ => XS.icmpYes X.here hx rfl (pc0 := 116) (pc' := 210) rfl (hb hby d62m4_116) rfl (flt hc116_114).2.2.2 (by decide) (by decide)) ?_
        have hv116 := hv113.trans (if_neg hc116_114)
        show OGets p e below _ (T.setTop (mkF m 210 #[.val (.int p0)] []))
        exact J210 T X eT hv116
  have J91 : ∀ (T : State), Stand p l e ({ frames := 0, cells := 0, slots := 0, locals := 0 } : Room) s m #[(.int p0)] below meth c T [] 0 0 → T.heap = h0 → f_isN p0 = f_isN_91 p0 → OGets p e below (OLeaves s (Q_isN Z p0 h0 n0 ) ({ frames := 0, cells := 0, slots := 0, locals := 0 } : Room).cells ({ frames := 0, cells := 0, slots := 0, locals := 0 } : Room).slots) (T.setTop (mkF m 91 #[.val (.int p0)] [])) := by
    intro T X eT hv'
    have hv : f_isN p0 = (if p0 < (880 : Int32) then f_isN_105 p0 else (if (893 : Int32) < p0 then f_isN_105 p0 else f_isN_210 p0)) := hv'
    show OGets p e below _ (T.setTop (mkF m 91 #[.val (.int p0)] []))
    refine OGets.step (fun _ => XS.iloadN X.here hx rfl (hb hby d62m4_91) rfl) ?_
    show OGets p e below _ (T.setTop (mkF m 92 #[.val (.int p0)] [(.int p0)]))
    refine OGets.step (fun _ => XS.sipush X.here hx rfl (hb hby d62m4_92)) ?_
    show OGets p e below _ (T.setTop (mkF m 95 #[.val (.int p0)] [(.int (880 : Int32)), (.int p0)]))
    by_cases hc95_117 : p0 < (880 : Int32)
    · refine OGets.step (fun _ => XS.icmpYes X.here hx rfl (pc0 := 95) (pc' := 105) rfl (hb hby d62m4_95) rfl (tlt hc95_117).1 (by decide) (by decide)) ?_
      have hv118 := hv.trans (if_pos hc95_117)
      show OGets p e below _ (T.setTop (mkF m 105 #[.val (.int p0)] []))
      exact J105 T X eT hv118
    · refine OGets.step (fun _ => XS.icmpNo X.here hx rfl (hb hby d62m4_95) rfl (flt hc95_117).1) ?_
      have hv119 := hv.trans (if_neg hc95_117)
      show OGets p e below _ (T.setTop (mkF m 98 #[.val (.int p0)] []))
      refine OGets.step (fun _ => XS.iloadN X.here hx rfl (hb hby d62m4_98) rfl) ?_
      show OGets p e below _ (T.setTop (mkF m 99 #[.val (.int p0)] [(.int p0)]))
      refine OGets.step (fun _ => XS.sipush X.here hx rfl (hb hby d62m4_99)) ?_
      show OGets p e below _ (T.setTop (mkF m 102 #[.val (.int p0)] [(.int (893 : Int32)), (.int p0)]))
      by_cases hc102_120 : (893 : Int32) < p0
      · refine OGets.step (fun _ => XS.icmpNo X.here hx rfl (hb hby d62m4_102) rfl (tlt hc102_120).2.2.2) ?_
        have hv121 := hv119.trans (if_pos hc102_120)
        show OGets p e below _ (T.setTop (mkF m 105 #[.val (.int p0)] []))
        exact J105 T X eT hv121
      · refine OGets.step (fun _ => XS.icmpYes X.here hx rfl (pc0 := 102) (pc' := 210) rfl (hb hby d62m4_102) rfl (flt hc102_120).2.2.2 (by decide) (by decide)) ?_
        have hv122 := hv119.trans (if_neg hc102_120)
        show OGets p e below _ (T.setTop (mkF m 210 #[.val (.int p0)] []))
        exact J210 T X eT hv122
  have J77 : ∀ (T : State), Stand p l e ({ frames := 0, cells := 0, slots := 0, locals := 0 } : Room) s m #[(.int p0)] below meth c T [] 0 0 → T.heap = h0 → f_isN p0 = f_isN_77 p0 → OGets p e below (OLeaves s (Q_isN Z p0 h0 n0 ) ({ frames := 0, cells := 0, slots := 0, locals := 0 } : Room).cells ({ frames := 0, cells := 0, slots := 0, locals := 0 } : Room).slots) (T.setTop (mkF m 77 #[.val (.int p0)] [])) := by
    intro T X eT hv'
    have hv : f_isN p0 = (if p0 < (248 : Int32) then f_isN_91 p0 else (if (767 : Int32) < p0 then f_isN_91 p0 else f_isN_210 p0)) := hv'
    show OGets p e below _ (T.setTop (mkF m 77 #[.val (.int p0)] []))
    refine OGets.step (fun _ => XS.iloadN X.here hx rfl (hb hby d62m4_77) rfl) ?_
    show OGets p e below _ (T.setTop (mkF m 78 #[.val (.int p0)] [(.int p0)]))
    refine OGets.step (fun _ => XS.sipush X.here hx rfl (hb hby d62m4_78)) ?_
    show OGets p e below _ (T.setTop (mkF m 81 #[.val (.int p0)] [(.int (248 : Int32)), (.int p0)]))
    by_cases hc81_123 : p0 < (248 : Int32)
    · refine OGets.step (fun _ => XS.icmpYes X.here hx rfl (pc0 := 81) (pc' := 91) rfl (hb hby d62m4_81) rfl (tlt hc81_123).1 (by decide) (by decide)) ?_
      have hv124 := hv.trans (if_pos hc81_123)
      show OGets p e below _ (T.setTop (mkF m 91 #[.val (.int p0)] []))
      exact J91 T X eT hv124
    · refine OGets.step (fun _ => XS.icmpNo X.here hx rfl (hb hby d62m4_81) rfl (flt hc81_123).1) ?_
      have hv125 := hv.trans (if_neg hc81_123)
      show OGets p e below _ (T.setTop (mkF m 84 #[.val (.int p0)] []))
      refine OGets.step (fun _ => XS.iloadN X.here hx rfl (hb hby d62m4_84) rfl) ?_
      show OGets p e below _ (T.setTop (mkF m 85 #[.val (.int p0)] [(.int p0)]))
      refine OGets.step (fun _ => XS.sipush X.here hx rfl (hb hby d62m4_85)) ?_
      show OGets p e below _ (T.setTop (mkF m 88 #[.val (.int p0)] [(.int (767 : Int32)), (.int p0)]))
      by_cases hc88_126 : (767 : Int32) < p0
      · refine OGets.step (fun _ => XS.icmpNo X.here hx rfl (hb hby d62m4_88) rfl (tlt hc88_126).2.2.2) ?_
        have hv127 := hv125.trans (if_pos hc88_126)
        show OGets p e below _ (T.setTop (mkF m 91 #[.val (.int p0)] []))
        exact J91 T X eT hv127
      · refine OGets.step (fun _ => XS.icmpYes X.here hx rfl (pc0 := 88) (pc' := 210) rfl (hb hby d62m4_88) rfl (flt hc88_126).2.2.2 (by decide) (by decide)) ?_
        have hv128 := hv125.trans (if_neg hc88_126)
        show OGets p e below _ (T.setTop (mkF m 210 #[.val (.int p0)] []))
        exact J210 T X eT hv128
  have J63 : ∀ (T : State), Stand p l e ({ frames := 0, cells := 0, slots := 0, locals := 0 } : Room) s m #[(.int p0)] below meth c T [] 0 0 → T.heap = h0 → f_isN p0 = f_isN_63 p0 → OGets p e below (OLeaves s (Q_isN Z p0 h0 n0 ) ({ frames := 0, cells := 0, slots := 0, locals := 0 } : Room).cells ({ frames := 0, cells := 0, slots := 0, locals := 0 } : Room).slots) (T.setTop (mkF m 63 #[.val (.int p0)] [])) := by
    intro T X eT hv'
    have hv : f_isN p0 = (if p0 < (216 : Int32) then f_isN_77 p0 else (if (246 : Int32) < p0 then f_isN_77 p0 else f_isN_210 p0)) := hv'
    show OGets p e below _ (T.setTop (mkF m 63 #[.val (.int p0)] []))
    refine OGets.step (fun _ => XS.iloadN X.here hx rfl (hb hby d62m4_63) rfl) ?_
    show OGets p e below _ (T.setTop (mkF m 64 #[.val (.int p0)] [(.int p0)]))
    refine OGets.step (fun _ => XS.sipush X.here hx rfl (hb hby d62m4_64)) ?_
    show OGets p e below _ (T.setTop (mkF m 67 #[.val (.int p0)] [(.int (216 : Int32)), (.int p0)]))
    by_cases hc67_129 : p0 < (216 : Int32)
    · refine OGets.step (fun _ => XS.icmpYes X.here hx rfl (pc0 := 67) (pc' := 77) rfl (hb hby d62m4_67) rfl (tlt hc67_129).1 (by decide) (by decide)) ?_
      have hv130 := hv.trans (if_pos hc67_129)
      show OGets p e below _ (T.setTop (mkF m 77 #[.val (.int p0)] []))
      exact J77 T X eT hv130
    · refine OGets.step (fun _ => XS.icmpNo X.here hx rfl (hb hby d62m4_67) rfl (flt hc67_129).1) ?_
      have hv131 := hv.trans (if_neg hc67_129)
      show OGets p e below _ (T.setTop (mkF m 70 #[.val (.int p0)] []))
      refine OGets.step (fun _ => XS.iloadN X.here hx rfl (hb hby d62m4_70) rfl) ?_
      show OGets p e below _ (T.setTop (mkF m 71 #[.val (.int p0)] [(.int p0)]))
      refine OGets.step (fun _ => XS.sipush X.here hx rfl (hb hby d62m4_71)) ?_
      show OGets p e below _ (T.setTop (mkF m 74 #[.val (.int p0)] [(.int (246 : Int32)), (.int p0)]))
      by_cases hc74_132 : (246 : Int32) < p0
      · refine OGets.step (fun _ => XS.icmpNo X.here hx rfl (hb hby d62m4_74) rfl (tlt hc74_132).2.2.2) ?_
        have hv133 := hv131.trans (if_pos hc74_132)
        show OGets p e below _ (T.setTop (mkF m 77 #[.val (.int p0)] []))
        exact J77 T X eT hv133
      · refine OGets.step (fun _ => XS.icmpYes X.here hx rfl (pc0 := 74) (pc' := 210) rfl (hb hby d62m4_74) rfl (flt hc74_132).2.2.2 (by decide) (by decide)) ?_
        have hv134 := hv131.trans (if_neg hc74_132)
        show OGets p e below _ (T.setTop (mkF m 210 #[.val (.int p0)] []))
        exact J210 T X eT hv134
  have J43 : ∀ (T : State), Stand p l e ({ frames := 0, cells := 0, slots := 0, locals := 0 } : Room) s m #[(.int p0)] below meth c T [] 0 0 → T.heap = h0 → f_isN p0 = f_isN_43 p0 → OGets p e below (OLeaves s (Q_isN Z p0 h0 n0 ) ({ frames := 0, cells := 0, slots := 0, locals := 0 } : Room).cells ({ frames := 0, cells := 0, slots := 0, locals := 0 } : Room).slots) (T.setTop (mkF m 43 #[.val (.int p0)] [])) := by
    intro T X eT hv'
    have hv : f_isN p0 = (1 : Int32) := hv'
    show OGets p e below _ (T.setTop (mkF m 43 #[.val (.int p0)] []))
    refine OGets.step (fun _ => XS.iconst X.here hx rfl (hb hby d62m4_43)) ?_
    show OGets p e below _ (T.setTop (mkF m 44 #[.val (.int p0)] [(.int (1 : Int32))]))
    refine OGets.step (fun _ => XS.goto X.here hx rfl (pc0 := 44) (pc' := 48) rfl (hb hby d62m4_44) (by decide) (by decide)) ?_
    show OGets p e below _ (T.setTop (mkF m 48 #[.val (.int p0)] [(.int (1 : Int32))]))
    refine OGets.retN X hx hlk (t := .boolean) Bd.returns (by simp) (hb hby d62m4_48) (Nat.le_of_ble_eq_true rfl) (Nat.le_of_ble_eq_true rfl) ?_
    exact ⟨congrArg (fun z => some (Value.int z)) hv.symm, rfl, eT⟩
  have J31 : ∀ (T : State), Stand p l e ({ frames := 0, cells := 0, slots := 0, locals := 0 } : Room) s m #[(.int p0)] below meth c T [] 0 0 → T.heap = h0 → f_isN p0 = f_isN_31 p0 → OGets p e below (OLeaves s (Q_isN Z p0 h0 n0 ) ({ frames := 0, cells := 0, slots := 0, locals := 0 } : Room).cells ({ frames := 0, cells := 0, slots := 0, locals := 0 } : Room).slots) (T.setTop (mkF m 31 #[.val (.int p0)] [])) := by
    intro T X eT hv'
    have hv : f_isN p0 = (if p0 = (95 : Int32) then f_isN_43 p0 else (if p0 = (58 : Int32) then f_isN_43 p0 else (0 : Int32))) := hv'
    show OGets p e below _ (T.setTop (mkF m 31 #[.val (.int p0)] []))
    refine OGets.step (fun _ => XS.iloadN X.here hx rfl (hb hby d62m4_31) rfl) ?_
    show OGets p e below _ (T.setTop (mkF m 32 #[.val (.int p0)] [(.int p0)]))
    refine OGets.step (fun _ => XS.bipush X.here hx rfl (hb hby d62m4_32)) ?_
    show OGets p e below _ (T.setTop (mkF m 34 #[.val (.int p0)] [(.int (95 : Int32)), (.int p0)]))
    by_cases hc34_135 : p0 = (95 : Int32)
    · refine OGets.step (fun _ => XS.icmpYes X.here hx rfl (pc0 := 34) (pc' := 43) rfl (hb hby d62m4_34) rfl (teq hc34_135).1 (by decide) (by decide)) ?_
      have hv136 := hv.trans (if_pos hc34_135)
      show OGets p e below _ (T.setTop (mkF m 43 #[.val (.int p0)] []))
      exact J43 T X eT hv136
    · refine OGets.step (fun _ => XS.icmpNo X.here hx rfl (hb hby d62m4_34) rfl (feq hc34_135).1) ?_
      have hv137 := hv.trans (if_neg hc34_135)
      show OGets p e below _ (T.setTop (mkF m 37 #[.val (.int p0)] []))
      refine OGets.step (fun _ => XS.iloadN X.here hx rfl (hb hby d62m4_37) rfl) ?_
      show OGets p e below _ (T.setTop (mkF m 38 #[.val (.int p0)] [(.int p0)]))
      refine OGets.step (fun _ => XS.bipush X.here hx rfl (hb hby d62m4_38)) ?_
      show OGets p e below _ (T.setTop (mkF m 40 #[.val (.int p0)] [(.int (58 : Int32)), (.int p0)]))
      by_cases hc40_138 : p0 = (58 : Int32)
      · refine OGets.step (fun _ => XS.icmpNo X.here hx rfl (hb hby d62m4_40) rfl (teq hc40_138).2) ?_
        have hv139 := hv137.trans (if_pos hc40_138)
        show OGets p e below _ (T.setTop (mkF m 43 #[.val (.int p0)] []))
        exact J43 T X eT hv139
      · refine OGets.step (fun _ => XS.icmpYes X.here hx rfl (pc0 := 40) (pc' := 47) rfl (hb hby d62m4_40) rfl (feq hc40_138).2 (by decide) (by decide)) ?_
        have hv140 := hv137.trans (if_neg hc40_138)
        show OGets p e below _ (T.setTop (mkF m 47 #[.val (.int p0)] []))
        refine OGets.step (fun _ => XS.iconst X.here hx rfl (hb hby d62m4_47)) ?_
        show OGets p e below _ (T.setTop (mkF m 48 #[.val (.int p0)] [(.int (0 : Int32))]))
        refine OGets.retN X hx hlk (t := .boolean) Bd.returns (by simp) (hb hby d62m4_48) (Nat.le_of_ble_eq_true rfl) (Nat.le_of_ble_eq_true rfl) ?_
        exact ⟨congrArg (fun z => some (Value.int z)) hv140.symm, rfl, eT⟩
  have J19 : ∀ (T : State), Stand p l e ({ frames := 0, cells := 0, slots := 0, locals := 0 } : Room) s m #[(.int p0)] below meth c T [] 0 0 → T.heap = h0 → f_isN p0 = f_isN_19 p0 → OGets p e below (OLeaves s (Q_isN Z p0 h0 n0 ) ({ frames := 0, cells := 0, slots := 0, locals := 0 } : Room).cells ({ frames := 0, cells := 0, slots := 0, locals := 0 } : Room).slots) (T.setTop (mkF m 19 #[.val (.int p0)] [])) := by
    intro T X eT hv'
    have hv : f_isN p0 = (if p0 < (65 : Int32) then f_isN_31 p0 else (if (90 : Int32) < p0 then f_isN_31 p0 else f_isN_43 p0)) := hv'
    show OGets p e below _ (T.setTop (mkF m 19 #[.val (.int p0)] []))
    refine OGets.step (fun _ => XS.iloadN X.here hx rfl (hb hby d62m4_19) rfl) ?_
    show OGets p e below _ (T.setTop (mkF m 20 #[.val (.int p0)] [(.int p0)]))
    refine OGets.step (fun _ => XS.bipush X.here hx rfl (hb hby d62m4_20)) ?_
    show OGets p e below _ (T.setTop (mkF m 22 #[.val (.int p0)] [(.int (65 : Int32)), (.int p0)]))
    by_cases hc22_141 : p0 < (65 : Int32)
    · refine OGets.step (fun _ => XS.icmpYes X.here hx rfl (pc0 := 22) (pc' := 31) rfl (hb hby d62m4_22) rfl (tlt hc22_141).1 (by decide) (by decide)) ?_
      have hv142 := hv.trans (if_pos hc22_141)
      show OGets p e below _ (T.setTop (mkF m 31 #[.val (.int p0)] []))
      exact J31 T X eT hv142
    · refine OGets.step (fun _ => XS.icmpNo X.here hx rfl (hb hby d62m4_22) rfl (flt hc22_141).1) ?_
      have hv143 := hv.trans (if_neg hc22_141)
      show OGets p e below _ (T.setTop (mkF m 25 #[.val (.int p0)] []))
      refine OGets.step (fun _ => XS.iloadN X.here hx rfl (hb hby d62m4_25) rfl) ?_
      show OGets p e below _ (T.setTop (mkF m 26 #[.val (.int p0)] [(.int p0)]))
      refine OGets.step (fun _ => XS.bipush X.here hx rfl (hb hby d62m4_26)) ?_
      show OGets p e below _ (T.setTop (mkF m 28 #[.val (.int p0)] [(.int (90 : Int32)), (.int p0)]))
      by_cases hc28_144 : (90 : Int32) < p0
      · refine OGets.step (fun _ => XS.icmpNo X.here hx rfl (hb hby d62m4_28) rfl (tlt hc28_144).2.2.2) ?_
        have hv145 := hv143.trans (if_pos hc28_144)
        show OGets p e below _ (T.setTop (mkF m 31 #[.val (.int p0)] []))
        exact J31 T X eT hv145
      · refine OGets.step (fun _ => XS.icmpYes X.here hx rfl (pc0 := 28) (pc' := 43) rfl (hb hby d62m4_28) rfl (flt hc28_144).2.2.2 (by decide) (by decide)) ?_
        have hv146 := hv143.trans (if_neg hc28_144)
        show OGets p e below _ (T.setTop (mkF m 43 #[.val (.int p0)] []))
        exact J43 T X eT hv146
  have hv0 : f_isN p0 = (if p0 < (128 : Int32) then (if p0 < (97 : Int32) then f_isN_19 p0 else (if (122 : Int32) < p0 then f_isN_19 p0 else f_isN_43 p0)) else (if p0 < (192 : Int32) then f_isN_63 p0 else (if (214 : Int32) < p0 then f_isN_63 p0 else f_isN_210 p0))) := rfl
  show OGets p e below (OLeaves s (Q_isN Z p0 h0 n0 ) ({ frames := 0, cells := 0, slots := 0, locals := 0 } : Room).cells ({ frames := 0, cells := 0, slots := 0, locals := 0 } : Room).slots) _
  refine OGets.enter (ef_isN m p0) ?_
  show OGets p e below _ (s₁.setTop (mkF m 0 #[.val (.int p0)] []))
  refine OGets.step (fun _ => XS.iloadN X0.here hx rfl (hb hby d62m4_0) rfl) ?_
  show OGets p e below _ (s₁.setTop (mkF m 1 #[.val (.int p0)] [(.int p0)]))
  refine OGets.step (fun _ => XS.sipush X0.here hx rfl (hb hby d62m4_1)) ?_
  show OGets p e below _ (s₁.setTop (mkF m 4 #[.val (.int p0)] [(.int (128 : Int32)), (.int p0)]))
  by_cases hc4_147 : p0 < (128 : Int32)
  · refine OGets.step (fun _ => XS.icmpNo X0.here hx rfl (hb hby d62m4_4) rfl (tlt hc4_147).2.1) ?_
    have hv148 := hv0.trans (if_pos hc4_147)
    show OGets p e below _ (s₁.setTop (mkF m 7 #[.val (.int p0)] []))
    refine OGets.step (fun _ => XS.iloadN X0.here hx rfl (hb hby d62m4_7) rfl) ?_
    show OGets p e below _ (s₁.setTop (mkF m 8 #[.val (.int p0)] [(.int p0)]))
    refine OGets.step (fun _ => XS.bipush X0.here hx rfl (hb hby d62m4_8)) ?_
    show OGets p e below _ (s₁.setTop (mkF m 10 #[.val (.int p0)] [(.int (97 : Int32)), (.int p0)]))
    by_cases hc10_149 : p0 < (97 : Int32)
    · refine OGets.step (fun _ => XS.icmpYes X0.here hx rfl (pc0 := 10) (pc' := 19) rfl (hb hby d62m4_10) rfl (tlt hc10_149).1 (by decide) (by decide)) ?_
      have hv150 := hv148.trans (if_pos hc10_149)
      show OGets p e below _ (s₁.setTop (mkF m 19 #[.val (.int p0)] []))
      exact J19 s₁ X0 e0 hv150
    · refine OGets.step (fun _ => XS.icmpNo X0.here hx rfl (hb hby d62m4_10) rfl (flt hc10_149).1) ?_
      have hv151 := hv148.trans (if_neg hc10_149)
      show OGets p e below _ (s₁.setTop (mkF m 13 #[.val (.int p0)] []))
      refine OGets.step (fun _ => XS.iloadN X0.here hx rfl (hb hby d62m4_13) rfl) ?_
      show OGets p e below _ (s₁.setTop (mkF m 14 #[.val (.int p0)] [(.int p0)]))
      refine OGets.step (fun _ => XS.bipush X0.here hx rfl (hb hby d62m4_14)) ?_
      show OGets p e below _ (s₁.setTop (mkF m 16 #[.val (.int p0)] [(.int (122 : Int32)), (.int p0)]))
      by_cases hc16_152 : (122 : Int32) < p0
      · refine OGets.step (fun _ => XS.icmpNo X0.here hx rfl (hb hby d62m4_16) rfl (tlt hc16_152).2.2.2) ?_
        have hv153 := hv151.trans (if_pos hc16_152)
        show OGets p e below _ (s₁.setTop (mkF m 19 #[.val (.int p0)] []))
        exact J19 s₁ X0 e0 hv153
      · refine OGets.step (fun _ => XS.icmpYes X0.here hx rfl (pc0 := 16) (pc' := 43) rfl (hb hby d62m4_16) rfl (flt hc16_152).2.2.2 (by decide) (by decide)) ?_
        have hv154 := hv151.trans (if_neg hc16_152)
        show OGets p e below _ (s₁.setTop (mkF m 43 #[.val (.int p0)] []))
        exact J43 s₁ X0 e0 hv154
  · refine OGets.step (fun _ => XS.icmpYes X0.here hx rfl (pc0 := 4) (pc' := 49) rfl (hb hby d62m4_4) rfl (flt hc4_147).2.1 (by decide) (by decide)) ?_
    have hv155 := hv0.trans (if_neg hc4_147)
    show OGets p e below _ (s₁.setTop (mkF m 49 #[.val (.int p0)] []))
    refine OGets.step (fun _ => XS.iloadN X0.here hx rfl (hb hby d62m4_49) rfl) ?_
    show OGets p e below _ (s₁.setTop (mkF m 50 #[.val (.int p0)] [(.int p0)]))
    refine OGets.step (fun _ => XS.sipush X0.here hx rfl (hb hby d62m4_50)) ?_
    show OGets p e below _ (s₁.setTop (mkF m 53 #[.val (.int p0)] [(.int (192 : Int32)), (.int p0)]))
    by_cases hc53_156 : p0 < (192 : Int32)
    · refine OGets.step (fun _ => XS.icmpYes X0.here hx rfl (pc0 := 53) (pc' := 63) rfl (hb hby d62m4_53) rfl (tlt hc53_156).1 (by decide) (by decide)) ?_
      have hv157 := hv155.trans (if_pos hc53_156)
      show OGets p e below _ (s₁.setTop (mkF m 63 #[.val (.int p0)] []))
      exact J63 s₁ X0 e0 hv157
    · refine OGets.step (fun _ => XS.icmpNo X0.here hx rfl (hb hby d62m4_53) rfl (flt hc53_156).1) ?_
      have hv158 := hv155.trans (if_neg hc53_156)
      show OGets p e below _ (s₁.setTop (mkF m 56 #[.val (.int p0)] []))
      refine OGets.step (fun _ => XS.iloadN X0.here hx rfl (hb hby d62m4_56) rfl) ?_
      show OGets p e below _ (s₁.setTop (mkF m 57 #[.val (.int p0)] [(.int p0)]))
      refine OGets.step (fun _ => XS.sipush X0.here hx rfl (hb hby d62m4_57)) ?_
      show OGets p e below _ (s₁.setTop (mkF m 60 #[.val (.int p0)] [(.int (214 : Int32)), (.int p0)]))
      by_cases hc60_159 : (214 : Int32) < p0
      · refine OGets.step (fun _ => XS.icmpNo X0.here hx rfl (hb hby d62m4_60) rfl (tlt hc60_159).2.2.2) ?_
        have hv160 := hv158.trans (if_pos hc60_159)
        show OGets p e below _ (s₁.setTop (mkF m 63 #[.val (.int p0)] []))
        exact J63 s₁ X0 e0 hv160
      · refine OGets.step (fun _ => XS.icmpYes X0.here hx rfl (pc0 := 60) (pc' := 210) rfl (hb hby d62m4_60) rfl (flt hc60_159).2.2.2 (by decide) (by decide)) ?_
        have hv161 := hv158.trans (if_neg hc60_159)
        show OGets p e below _ (s₁.setTop (mkF m 210 #[.val (.int p0)] []))
        exact J210 s₁ X0 e0 hv161
theorem own_rng {x lo hi n : Int32} {C : Prop} (hn : n = 0 ∧ ¬ C ∨ n = 1 ∧ C) : ((if x < lo then n else if hi < x then n else (1 : Int32)) = 0 ∧ ¬ ((lo.toInt ≤ x.toInt ∧ x.toInt ≤ hi.toInt) ∨ C)) ∨ ((if x < lo then n else if hi < x then n else (1 : Int32)) = 1 ∧ ((lo.toInt ≤ x.toInt ∧ x.toInt ≤ hi.toInt) ∨ C)) := by
  by_cases h1 : x < lo
  · rw [if_pos h1]
    rw [Int32.lt_iff_toInt_lt] at h1
    rcases hn with ⟨h2, h3⟩ | ⟨h2, h3⟩
    · exact Or.inl ⟨h2, fun q => q.elim (fun r => by omega) h3⟩
    · exact Or.inr ⟨h2, Or.inr h3⟩
  · rw [if_neg h1]
    by_cases h4 : hi < x
    · rw [if_pos h4]
      rw [Int32.lt_iff_toInt_lt] at h4
      rcases hn with ⟨h2, h3⟩ | ⟨h2, h3⟩
      · exact Or.inl ⟨h2, fun q => q.elim (fun r => by omega) h3⟩
      · exact Or.inr ⟨h2, Or.inr h3⟩
    · rw [if_neg h4]
      rw [Int32.lt_iff_toInt_lt] at h1 h4
      exact Or.inr ⟨rfl, Or.inl ⟨by omega, by omega⟩⟩
theorem own_two {x a b n : Int32} (hn : n = 0) : ((if x = a then (1 : Int32) else if x = b then (1 : Int32) else n) = 0 ∧ ¬ (x.toInt = a.toInt ∨ x.toInt = b.toInt)) ∨ ((if x = a then (1 : Int32) else if x = b then (1 : Int32) else n) = 1 ∧ (x.toInt = a.toInt ∨ x.toInt = b.toInt)) := by
  subst hn
  simp only [Int32.toInt_inj]
  by_cases h1 : x = a
  · simp [h1]
  · by_cases h2 : x = b <;> simp [h1, h2]
theorem own_i1 {P : Prop} [Decidable P] {n : Int32} : (if P then n else (1 : Int32)) = 0 ↔ P ∧ n = 0 := by
  by_cases h : P <;> simp [h]
theorem own_i2 {P : Prop} [Decidable P] {n : Int32} : (if P then (1 : Int32) else n) = 0 ↔ ¬ P ∧ n = 0 := by
  by_cases h : P <;> simp [h]
theorem own_in {x lo hi : Int32} : f_inr x lo hi = 0 ↔ ¬ (lo.toInt ≤ x.toInt ∧ x.toInt ≤ hi.toInt) := by
  simp only [f_inr, f_inr_14, Int32.lt_iff_toInt_lt]
  by_cases h1 : x.toInt < lo.toInt
  · simp only [if_pos h1, true_iff]; omega
  · simp only [if_neg h1]
    by_cases h2 : hi.toInt < x.toInt
    · simp only [if_pos h2, true_iff]; omega
    · simp only [if_neg h2]
      constructor
      · intro h; cases h
      · intro h; omega
theorem own_hiN (x : Int32) : (f_isN_63 x = 0 ∧ ¬ ((216 ≤ x.toInt ∧ x.toInt ≤ 246) ∨ (248 ≤ x.toInt ∧ x.toInt ≤ 767) ∨ (880 ≤ x.toInt ∧ x.toInt ≤ 893) ∨ (895 ≤ x.toInt ∧ x.toInt ≤ 8191) ∨ (8204 ≤ x.toInt ∧ x.toInt ≤ 8205) ∨ (8304 ≤ x.toInt ∧ x.toInt ≤ 8591) ∨ (11264 ≤ x.toInt ∧ x.toInt ≤ 12271) ∨ (12289 ≤ x.toInt ∧ x.toInt ≤ 55295) ∨ (63744 ≤ x.toInt ∧ x.toInt ≤ 64975) ∨ (65008 ≤ x.toInt ∧ x.toInt ≤ 65533) ∨ (65536 ≤ x.toInt ∧ x.toInt ≤ 983039) ∨ False)) ∨ (f_isN_63 x = 1 ∧ ((216 ≤ x.toInt ∧ x.toInt ≤ 246) ∨ (248 ≤ x.toInt ∧ x.toInt ≤ 767) ∨ (880 ≤ x.toInt ∧ x.toInt ≤ 893) ∨ (895 ≤ x.toInt ∧ x.toInt ≤ 8191) ∨ (8204 ≤ x.toInt ∧ x.toInt ≤ 8205) ∨ (8304 ≤ x.toInt ∧ x.toInt ≤ 8591) ∨ (11264 ≤ x.toInt ∧ x.toInt ≤ 12271) ∨ (12289 ≤ x.toInt ∧ x.toInt ≤ 55295) ∨ (63744 ≤ x.toInt ∧ x.toInt ≤ 64975) ∨ (65008 ≤ x.toInt ∧ x.toInt ≤ 65533) ∨ (65536 ≤ x.toInt ∧ x.toInt ≤ 983039) ∨ False)) := by
  have d214 : f_isN_214 x = 0 ∧ ¬ False ∨ f_isN_214 x = 1 ∧ False := Or.inl ⟨rfl, fun q => q⟩
  have d198 := own_rng (x := x) (lo := (65536 : Int32)) (hi := (983039 : Int32)) d214
  have d186 := own_rng (x := x) (lo := (65008 : Int32)) (hi := (65533 : Int32)) d198
  have d174 := own_rng (x := x) (lo := (63744 : Int32)) (hi := (64975 : Int32)) d186
  have d161 := own_rng (x := x) (lo := (12289 : Int32)) (hi := (55295 : Int32)) d174
  have d147 := own_rng (x := x) (lo := (11264 : Int32)) (hi := (12271 : Int32)) d161
  have d133 := own_rng (x := x) (lo := (8304 : Int32)) (hi := (8591 : Int32)) d147
  have d119 := own_rng (x := x) (lo := (8204 : Int32)) (hi := (8205 : Int32)) d133
  have d105 := own_rng (x := x) (lo := (895 : Int32)) (hi := (8191 : Int32)) d119
  have d91 := own_rng (x := x) (lo := (880 : Int32)) (hi := (893 : Int32)) d105
  have d77 := own_rng (x := x) (lo := (248 : Int32)) (hi := (767 : Int32)) d91
  have d63 := own_rng (x := x) (lo := (216 : Int32)) (hi := (246 : Int32)) d77
  simp only [Int32.reduceToInt] at d63
  exact d63
theorem own_loN (x : Int32) : (f_isN_19 x = 0 ∧ ¬ ((65 ≤ x.toInt ∧ x.toInt ≤ 90) ∨ (x.toInt = 95 ∨ x.toInt = 58))) ∨ (f_isN_19 x = 1 ∧ ((65 ≤ x.toInt ∧ x.toInt ≤ 90) ∨ (x.toInt = 95 ∨ x.toInt = 58))) := by
  have d31 := own_two (x := x) (a := (95 : Int32)) (b := (58 : Int32)) (n := (0 : Int32)) rfl
  have d19 := own_rng (x := x) (lo := (65 : Int32)) (hi := (90 : Int32)) d31
  simp only [Int32.reduceToInt] at d19
  exact d19
theorem own_isN (x : Int32) : (x.toInt < 128 ∧ ((f_isN x = 0 ∧ ¬ ((97 ≤ x.toInt ∧ x.toInt ≤ 122) ∨ ((65 ≤ x.toInt ∧ x.toInt ≤ 90) ∨ (x.toInt = 95 ∨ x.toInt = 58)))) ∨ (f_isN x = 1 ∧ ((97 ≤ x.toInt ∧ x.toInt ≤ 122) ∨ ((65 ≤ x.toInt ∧ x.toInt ≤ 90) ∨ (x.toInt = 95 ∨ x.toInt = 58)))))) ∨
    (128 ≤ x.toInt ∧ ((f_isN x = 0 ∧ ¬ ((192 ≤ x.toInt ∧ x.toInt ≤ 214) ∨ ((216 ≤ x.toInt ∧ x.toInt ≤ 246) ∨ (248 ≤ x.toInt ∧ x.toInt ≤ 767) ∨ (880 ≤ x.toInt ∧ x.toInt ≤ 893) ∨ (895 ≤ x.toInt ∧ x.toInt ≤ 8191) ∨ (8204 ≤ x.toInt ∧ x.toInt ≤ 8205) ∨ (8304 ≤ x.toInt ∧ x.toInt ≤ 8591) ∨ (11264 ≤ x.toInt ∧ x.toInt ≤ 12271) ∨ (12289 ≤ x.toInt ∧ x.toInt ≤ 55295) ∨ (63744 ≤ x.toInt ∧ x.toInt ≤ 64975) ∨ (65008 ≤ x.toInt ∧ x.toInt ≤ 65533) ∨ (65536 ≤ x.toInt ∧ x.toInt ≤ 983039) ∨ False))) ∨ (f_isN x = 1 ∧ ((192 ≤ x.toInt ∧ x.toInt ≤ 214) ∨ ((216 ≤ x.toInt ∧ x.toInt ≤ 246) ∨ (248 ≤ x.toInt ∧ x.toInt ≤ 767) ∨ (880 ≤ x.toInt ∧ x.toInt ≤ 893) ∨ (895 ≤ x.toInt ∧ x.toInt ≤ 8191) ∨ (8204 ≤ x.toInt ∧ x.toInt ≤ 8205) ∨ (8304 ≤ x.toInt ∧ x.toInt ≤ 8591) ∨ (11264 ≤ x.toInt ∧ x.toInt ≤ 12271) ∨ (12289 ≤ x.toInt ∧ x.toInt ≤ 55295) ∨ (63744 ≤ x.toInt ∧ x.toInt ≤ 64975) ∨ (65008 ≤ x.toInt ∧ x.toInt ≤ 65533) ∨ (65536 ≤ x.toInt ∧ x.toInt ≤ 983039) ∨ False))))) := by
  by_cases h : x < (128 : Int32)
  · have d := own_rng (x := x) (lo := (97 : Int32)) (hi := (122 : Int32)) (own_loN x)
    have e : f_isN x = (if x < (97 : Int32) then f_isN_19 x else (if (122 : Int32) < x then f_isN_19 x else f_isN_43 x)) := if_pos h
    rw [e]
    rw [Int32.lt_iff_toInt_lt] at h
    simp only [Int32.reduceToInt] at d h
    exact Or.inl ⟨h, d⟩
  · have d := own_rng (x := x) (lo := (192 : Int32)) (hi := (214 : Int32)) (own_hiN x)
    have e : f_isN x = (if x < (192 : Int32) then f_isN_63 x else (if (214 : Int32) < x then f_isN_63 x else f_isN_210 x)) := if_neg h
    rw [e]
    rw [Int32.lt_iff_toInt_lt] at h
    simp only [Int32.reduceToInt] at d h
    exact Or.inr ⟨by omega, d⟩
theorem own_gap (x : Int32) : f_inGap x = 0 ↔ (58 ≤ x.toInt ∧ ¬ (59 ≤ x.toInt ∧ x.toInt ≤ 64) ∧ ¬ (91 ≤ x.toInt ∧ x.toInt ≤ 94) ∧ ¬ x.toInt = 96 ∧ ¬ (123 ≤ x.toInt ∧ x.toInt ≤ 191) ∧ ¬ x.toInt = 215 ∧ ¬ x.toInt = 247 ∧ ¬ (768 ≤ x.toInt ∧ x.toInt ≤ 879) ∧ ¬ x.toInt = 894 ∧ ¬ (8192 ≤ x.toInt ∧ x.toInt ≤ 8203) ∧ ¬ (8206 ≤ x.toInt ∧ x.toInt ≤ 8303) ∧ ¬ (8592 ≤ x.toInt ∧ x.toInt ≤ 11263) ∧ ¬ (12272 ≤ x.toInt ∧ x.toInt ≤ 12288) ∧ ¬ (55296 ≤ x.toInt ∧ x.toInt ≤ 63743) ∧ ¬ (64976 ≤ x.toInt ∧ x.toInt ≤ 65007) ∧ ¬ (65534 ≤ x.toInt ∧ x.toInt ≤ 65535) ∧ x.toInt ≤ 983039) := by
  simp only [f_inGap, own_i1, own_i2, own_in]
  simp only [Int32.lt_iff_toInt_lt, ← Int32.toInt_inj, Int32.reduceToInt, Int.not_lt, and_true]
theorem own_yes (x : Int32) (h : f_inGap x = 0) : f_isN x = 1 := by
  rw [own_gap] at h
  rcases own_isN x with ⟨h0, ⟨h1, h2⟩ | ⟨h1, h2⟩⟩ | ⟨h0, ⟨h1, h2⟩ | ⟨h1, h2⟩⟩
  · exfalso; omega
  · exact h1
  · exfalso; omega
  · exact h1
theorem own_no (x : Int32) (h : ¬ f_inGap x = 0) : f_isN x = 0 := by
  rw [own_gap] at h
  rcases own_isN x with ⟨h0, ⟨h1, h2⟩ | ⟨h1, h2⟩⟩ | ⟨h0, ⟨h1, h2⟩ | ⟨h1, h2⟩⟩
  · exact h1
  · exfalso; omega
  · exact h1
  · simp only [or_false] at h2
    exfalso; omega
theorem own_ints (L : List Int32) (k : Nat) (hk : k < L.length) : ∃ w : Int32, (L.map Value.int)[k]? = some (.int w) := ⟨L[k], by simp [hk]⟩
theorem own_m33 (x : Int32) : ∃ k : Nat, (((x.toUInt32 >>> ((1 : Int32) &&& 31).toUInt32).toInt32) % (33 : Int32)).toInt = (k : Int) ∧ k < 33 := by
  have h1 := c_iushr x 1 1 (by decide) (by decide)
  have h2 := (c_irem ((x.toUInt32 >>> ((1 : Int32) &&& 31).toUInt32).toInt32) 33 33 (by decide)).1 (by omega)
  refine ⟨(((x.toUInt32 >>> ((1 : Int32) &&& 31).toUInt32).toInt32) % (33 : Int32)).toInt.toNat, ?_, ?_⟩ <;> omega
theorem pd_3 : parseMethodDescriptor "(I)Z" = some ⟨[.int], some .boolean⟩ := by decide +kernel
theorem ef_law (m : MethodId) (x0 : Int32) (x1 : Int32) : entryFrame m #[(.int x0), (.int x1)] maxLocals = mkF m 0 #[.val (.int x0), .val (.int x1), .unset, .unset, .unset] [] := by first | (simp [entryFrame, mkF, argsToLocals, Value.category, maxLocals]; done) | rfl
def Q_law (Z : State) (p0 : Int32) (p1 : Int32) (h0 : Heap) (n0 : Nat) (v : Option Value) (h : Heap) (L : List Loc) : Prop := v = some (.int 1) ∧ Fr n0 L
set_option maxRecDepth 65536 in
set_option maxHeartbeats 40000000 in
theorem rm_law (l : Launch) (Z : State) (a0 : Array Value) (hw : ∀ d ∈ tables_1, d.before a0 Z = true) (ws : List Jvm.Cond) (p0 : Int32) (p1 : Int32) (h0 : Heap) (n0 : Nat) (Z0 : n0 ≤ h0.size) (V0 : OView Z n0 h0 ([])) :
    MetFree l x (head1 (Jvm.Cond.code x code maxLocals ret :: ws) room_1) (fun a_ U => a_ = #[(.int p0), (.int p1)] ∧ Z.Warmed39 U.vm ∧ U.heap = h0) (fun _ _ _ _ _ => True) (fun _ U o U' => ∃ v L, o = .returned v ∧ Q_law Z p0 p1 h0 n0 v U'.heap L ∧ FrameEnd U o U' L 16 192) := by
  refine MetFree.of_bodySF (plainFor_of_name pn_0) hisR ?_
  intro p e s m args below meth c s₁ Bd hml0 hP hK
  obtain ⟨rfl, hZ, hh⟩ := hP
  have hx := Bd.exec
  have hby := Bd.bytes
  have hlk : meth.locks = false := Bd.notSynchronized
  have hml : c.maxLocals = 5 := hml0
  have hown : s.vm.findClass "com/example/guarded_expansion/guardedexpansion/XmlCharsIsNameStartCharPinLaw" = some m.cls := findClass_of_methodNamed Bd.named
  have hnm := (name_of_methodNamed Bd.named Bd.method).1
  have X0 : Stand p l e room_1 s m #[(.int p0), (.int p1)] below meth c s₁ [] 0 0 := Stand.of_body Bd
  have e0 : s₁.heap = h0 := by rw [← hh, Bd.state]; rfl
  have N0 := Fr.nil n0
  show OGets p e below (OLeaves s (Q_law Z p0 p1 h0 n0 ) 16 192) _
  refine OGets.enter (ef_law m p0 p1) ?_
  show OGets p e below _ (s₁.setTop (mkF m 0 #[.val (.int p0), .val (.int p1), .unset, .unset, .unset] []))
  refine OGets.step (fun _ => XS.bipush X0.here hx rfl (hb hby at_0)) ?_
  show OGets p e below _ (s₁.setTop (mkF m 2 #[.val (.int p0), .val (.int p1), .unset, .unset, .unset] [(.int (33 : Int32))]))
  obtain ⟨T162, h162, k162, X162, e162, E162, A162, st162⟩ := newP X0 hx hZ (hw _ (List.mem_of_getElem? (i := 0) rfl)) e0 (g := (mkF m 2 #[.val (.int p0), .val (.int p1), .unset, .unset, .unset] [(.int (33 : Int32))])) rfl (hb hby at_2) rfl (by decide) (cap := 33) (by decide) (by decide) (by decide) (by decide)
  have V162' := V0.newArr Z0 E162 A162 33 rfl
  have Z162 : n0 ≤ h162.size := Nat.le_trans Z0 E162.1
  obtain ⟨b162, g162⟩ : ∃ z, z = h0.size := ⟨_, rfl⟩
  rw [← g162] at V162' st162
  have V162 : OView Z n0 h162 (((b162, Sum.inr (.int, [(.int (0 : Int32)), (.int (0 : Int32)), (.int (0 : Int32)), (.int (0 : Int32)), (.int (0 : Int32)), (.int (0 : Int32)), (.int (0 : Int32)), (.int (0 : Int32)), (.int (0 : Int32)), (.int (0 : Int32)), (.int (0 : Int32)), (.int (0 : Int32)), (.int (0 : Int32)), (.int (0 : Int32)), (.int (0 : Int32)), (.int (0 : Int32)), (.int (0 : Int32)), (.int (0 : Int32)), (.int (0 : Int32)), (.int (0 : Int32)), (.int (0 : Int32)), (.int (0 : Int32)), (.int (0 : Int32)), (.int (0 : Int32)), (.int (0 : Int32)), (.int (0 : Int32)), (.int (0 : Int32)), (.int (0 : Int32)), (.int (0 : Int32)), (.int (0 : Int32)), (.int (0 : Int32)), (.int (0 : Int32)), (.int (0 : Int32))])) : Addr × OObj) :: []) := V162'
  refine OGets.step st162 ?_
  show OGets p e below _ (T162.setTop (mkF m 4 #[.val (.int p0), .val (.int p1), .unset, .unset, .unset] [(.ref b162)]))
  refine OGets.step (fun _ => XS.dup X162.here hx rfl (hb hby at_4) rfl rfl) ?_
  show OGets p e below _ (T162.setTop (mkF m 5 #[.val (.int p0), .val (.int p1), .unset, .unset, .unset] [(.ref b162), (.ref b162)]))
  refine OGets.step (fun _ => XS.iconst X162.here hx rfl (hb hby at_5)) ?_
  show OGets p e below _ (T162.setTop (mkF m 6 #[.val (.int p0), .val (.int p1), .unset, .unset, .unset] [(.int (0 : Int32)), (.ref b162), (.ref b162)]))
  refine OGets.step (fun _ => XS.bipush X162.here hx rfl (hb hby at_6)) ?_
  show OGets p e below _ (T162.setTop (mkF m 8 #[.val (.int p0), .val (.int p1), .unset, .unset, .unset] [(.int (58 : Int32)), (.int (0 : Int32)), (.ref b162), (.ref b162)]))
  obtain ⟨cl163, Ar163, S163⟩ := V162.arr 0 rfl
  obtain ⟨T163, h163, X163, e163, W163', st163⟩ := stI X162 hx hZ e162 Ar163 (j := (0 : Int32)) (own_inb S163 0 (by decide) (by decide)) (g := (mkF m 8 #[.val (.int p0), .val (.int p1), .unset, .unset, .unset] [(.int (58 : Int32)), (.int (0 : Int32)), (.ref b162), (.ref b162)])) rfl rfl (hb hby at_8)
  have W163 := own_wr (vs := []) 0 (by decide) W163'
  have V163 : OView Z n0 h163 (((b162, Sum.inr (.int, [(.int (58 : Int32)), (.int (0 : Int32)), (.int (0 : Int32)), (.int (0 : Int32)), (.int (0 : Int32)), (.int (0 : Int32)), (.int (0 : Int32)), (.int (0 : Int32)), (.int (0 : Int32)), (.int (0 : Int32)), (.int (0 : Int32)), (.int (0 : Int32)), (.int (0 : Int32)), (.int (0 : Int32)), (.int (0 : Int32)), (.int (0 : Int32)), (.int (0 : Int32)), (.int (0 : Int32)), (.int (0 : Int32)), (.int (0 : Int32)), (.int (0 : Int32)), (.int (0 : Int32)), (.int (0 : Int32)), (.int (0 : Int32)), (.int (0 : Int32)), (.int (0 : Int32)), (.int (0 : Int32)), (.int (0 : Int32)), (.int (0 : Int32)), (.int (0 : Int32)), (.int (0 : Int32)), (.int (0 : Int32)), (.int (0 : Int32))])) : Addr × OObj) :: []) := V162.putA 0 rfl W163
  have N163 := Fr.snoc X163 N0 (V162.old 0 rfl)
  have Z163 : n0 ≤ h163.size := by rw [W163.size]; exact Z162
  refine OGets.step st163 ?_
  show OGets p e below _ (T163.setTop (mkF m 9 #[.val (.int p0), .val (.int p1), .unset, .unset, .unset] [(.ref b162)]))
  refine OGets.step (fun _ => XS.dup X163.here hx rfl (hb hby at_9) rfl rfl) ?_
  show OGets p e below _ (T163.setTop (mkF m 10 #[.val (.int p0), .val (.int p1), .unset, .unset, .unset] [(.ref b162), (.ref b162)]))
  refine OGets.step (fun _ => XS.iconst X163.here hx rfl (hb hby at_10)) ?_
  show OGets p e below _ (T163.setTop (mkF m 11 #[.val (.int p0), .val (.int p1), .unset, .unset, .unset] [(.int (1 : Int32)), (.ref b162), (.ref b162)]))
  refine OGets.step (fun _ => XS.bipush X163.here hx rfl (hb hby at_11)) ?_
  show OGets p e below _ (T163.setTop (mkF m 13 #[.val (.int p0), .val (.int p1), .unset, .unset, .unset] [(.int (65 : Int32)), (.int (1 : Int32)), (.ref b162), (.ref b162)]))
  obtain ⟨cl164, Ar164, S164⟩ := V163.arr 0 rfl
  obtain ⟨T164, h164, X164, e164, W164', st164⟩ := stI X163 hx hZ e163 Ar164 (j := (1 : Int32)) (own_inb S164 1 (by decide) (by decide)) (g := (mkF m 13 #[.val (.int p0), .val (.int p1), .unset, .unset, .unset] [(.int (65 : Int32)), (.int (1 : Int32)), (.ref b162), (.ref b162)])) rfl rfl (hb hby at_13)
  have W164 := own_wr (vs := []) 1 (by decide) W164'
  have V164 : OView Z n0 h164 (((b162, Sum.inr (.int, [(.int (58 : Int32)), (.int (65 : Int32)), (.int (0 : Int32)), (.int (0 : Int32)), (.int (0 : Int32)), (.int (0 : Int32)), (.int (0 : Int32)), (.int (0 : Int32)), (.int (0 : Int32)), (.int (0 : Int32)), (.int (0 : Int32)), (.int (0 : Int32)), (.int (0 : Int32)), (.int (0 : Int32)), (.int (0 : Int32)), (.int (0 : Int32)), (.int (0 : Int32)), (.int (0 : Int32)), (.int (0 : Int32)), (.int (0 : Int32)), (.int (0 : Int32)), (.int (0 : Int32)), (.int (0 : Int32)), (.int (0 : Int32)), (.int (0 : Int32)), (.int (0 : Int32)), (.int (0 : Int32)), (.int (0 : Int32)), (.int (0 : Int32)), (.int (0 : Int32)), (.int (0 : Int32)), (.int (0 : Int32)), (.int (0 : Int32))])) : Addr × OObj) :: []) := V163.putA 0 rfl W164
  have N164 := Fr.snoc X164 N163 (V163.old 0 rfl)
  have Z164 : n0 ≤ h164.size := by rw [W164.size]; exact Z163
  refine OGets.step st164 ?_
  show OGets p e below _ (T164.setTop (mkF m 14 #[.val (.int p0), .val (.int p1), .unset, .unset, .unset] [(.ref b162)]))
  refine OGets.step (fun _ => XS.dup X164.here hx rfl (hb hby at_14) rfl rfl) ?_
  show OGets p e below _ (T164.setTop (mkF m 15 #[.val (.int p0), .val (.int p1), .unset, .unset, .unset] [(.ref b162), (.ref b162)]))
  refine OGets.step (fun _ => XS.iconst X164.here hx rfl (hb hby at_15)) ?_
  show OGets p e below _ (T164.setTop (mkF m 16 #[.val (.int p0), .val (.int p1), .unset, .unset, .unset] [(.int (2 : Int32)), (.ref b162), (.ref b162)]))
  refine OGets.step (fun _ => XS.bipush X164.here hx rfl (hb hby at_16)) ?_
  show OGets p e below _ (T164.setTop (mkF m 18 #[.val (.int p0), .val (.int p1), .unset, .unset, .unset] [(.int (90 : Int32)), (.int (2 : Int32)), (.ref b162), (.ref b162)]))
  obtain ⟨cl165, Ar165, S165⟩ := V164.arr 0 rfl
  obtain ⟨T165, h165, X165, e165, W165', st165⟩ := stI X164 hx hZ e164 Ar165 (j := (2 : Int32)) (own_inb S165 2 (by decide) (by decide)) (g := (mkF m 18 #[.val (.int p0), .val (.int p1), .unset, .unset, .unset] [(.int (90 : Int32)), (.int (2 : Int32)), (.ref b162), (.ref b162)])) rfl rfl (hb hby at_18)
  have W165 := own_wr (vs := []) 2 (by decide) W165'
  have V165 : OView Z n0 h165 (((b162, Sum.inr (.int, [(.int (58 : Int32)), (.int (65 : Int32)), (.int (90 : Int32)), (.int (0 : Int32)), (.int (0 : Int32)), (.int (0 : Int32)), (.int (0 : Int32)), (.int (0 : Int32)), (.int (0 : Int32)), (.int (0 : Int32)), (.int (0 : Int32)), (.int (0 : Int32)), (.int (0 : Int32)), (.int (0 : Int32)), (.int (0 : Int32)), (.int (0 : Int32)), (.int (0 : Int32)), (.int (0 : Int32)), (.int (0 : Int32)), (.int (0 : Int32)), (.int (0 : Int32)), (.int (0 : Int32)), (.int (0 : Int32)), (.int (0 : Int32)), (.int (0 : Int32)), (.int (0 : Int32)), (.int (0 : Int32)), (.int (0 : Int32)), (.int (0 : Int32)), (.int (0 : Int32)), (.int (0 : Int32)), (.int (0 : Int32)), (.int (0 : Int32))])) : Addr × OObj) :: []) := V164.putA 0 rfl W165
  have N165 := Fr.snoc X165 N164 (V164.old 0 rfl)
  have Z165 : n0 ≤ h165.size := by rw [W165.size]; exact Z164
  refine OGets.step st165 ?_
  show OGets p e below _ (T165.setTop (mkF m 19 #[.val (.int p0), .val (.int p1), .unset, .unset, .unset] [(.ref b162)]))
  refine OGets.step (fun _ => XS.dup X165.here hx rfl (hb hby at_19) rfl rfl) ?_
  show OGets p e below _ (T165.setTop (mkF m 20 #[.val (.int p0), .val (.int p1), .unset, .unset, .unset] [(.ref b162), (.ref b162)]))
  refine OGets.step (fun _ => XS.iconst X165.here hx rfl (hb hby at_20)) ?_
  show OGets p e below _ (T165.setTop (mkF m 21 #[.val (.int p0), .val (.int p1), .unset, .unset, .unset] [(.int (3 : Int32)), (.ref b162), (.ref b162)]))
  refine OGets.step (fun _ => XS.bipush X165.here hx rfl (hb hby at_21)) ?_
  show OGets p e below _ (T165.setTop (mkF m 23 #[.val (.int p0), .val (.int p1), .unset, .unset, .unset] [(.int (95 : Int32)), (.int (3 : Int32)), (.ref b162), (.ref b162)]))
  obtain ⟨cl166, Ar166, S166⟩ := V165.arr 0 rfl
  obtain ⟨T166, h166, X166, e166, W166', st166⟩ := stI X165 hx hZ e165 Ar166 (j := (3 : Int32)) (own_inb S166 3 (by decide) (by decide)) (g := (mkF m 23 #[.val (.int p0), .val (.int p1), .unset, .unset, .unset] [(.int (95 : Int32)), (.int (3 : Int32)), (.ref b162), (.ref b162)])) rfl rfl (hb hby at_23)
  have W166 := own_wr (vs := []) 3 (by decide) W166'
  have V166 : OView Z n0 h166 (((b162, Sum.inr (.int, [(.int (58 : Int32)), (.int (65 : Int32)), (.int (90 : Int32)), (.int (95 : Int32)), (.int (0 : Int32)), (.int (0 : Int32)), (.int (0 : Int32)), (.int (0 : Int32)), (.int (0 : Int32)), (.int (0 : Int32)), (.int (0 : Int32)), (.int (0 : Int32)), (.int (0 : Int32)), (.int (0 : Int32)), (.int (0 : Int32)), (.int (0 : Int32)), (.int (0 : Int32)), (.int (0 : Int32)), (.int (0 : Int32)), (.int (0 : Int32)), (.int (0 : Int32)), (.int (0 : Int32)), (.int (0 : Int32)), (.int (0 : Int32)), (.int (0 : Int32)), (.int (0 : Int32)), (.int (0 : Int32)), (.int (0 : Int32)), (.int (0 : Int32)), (.int (0 : Int32)), (.int (0 : Int32)), (.int (0 : Int32)), (.int (0 : Int32))])) : Addr × OObj) :: []) := V165.putA 0 rfl W166
  have N166 := Fr.snoc X166 N165 (V165.old 0 rfl)
  have Z166 : n0 ≤ h166.size := by rw [W166.size]; exact Z165
  refine OGets.step st166 ?_
  show OGets p e below _ (T166.setTop (mkF m 24 #[.val (.int p0), .val (.int p1), .unset, .unset, .unset] [(.ref b162)]))
  refine OGets.step (fun _ => XS.dup X166.here hx rfl (hb hby at_24) rfl rfl) ?_
  show OGets p e below _ (T166.setTop (mkF m 25 #[.val (.int p0), .val (.int p1), .unset, .unset, .unset] [(.ref b162), (.ref b162)]))
  refine OGets.step (fun _ => XS.iconst X166.here hx rfl (hb hby at_25)) ?_
  show OGets p e below _ (T166.setTop (mkF m 26 #[.val (.int p0), .val (.int p1), .unset, .unset, .unset] [(.int (4 : Int32)), (.ref b162), (.ref b162)]))
  refine OGets.step (fun _ => XS.bipush X166.here hx rfl (hb hby at_26)) ?_
  show OGets p e below _ (T166.setTop (mkF m 28 #[.val (.int p0), .val (.int p1), .unset, .unset, .unset] [(.int (97 : Int32)), (.int (4 : Int32)), (.ref b162), (.ref b162)]))
  obtain ⟨cl167, Ar167, S167⟩ := V166.arr 0 rfl
  obtain ⟨T167, h167, X167, e167, W167', st167⟩ := stI X166 hx hZ e166 Ar167 (j := (4 : Int32)) (own_inb S167 4 (by decide) (by decide)) (g := (mkF m 28 #[.val (.int p0), .val (.int p1), .unset, .unset, .unset] [(.int (97 : Int32)), (.int (4 : Int32)), (.ref b162), (.ref b162)])) rfl rfl (hb hby at_28)
  have W167 := own_wr (vs := []) 4 (by decide) W167'
  have V167 : OView Z n0 h167 (((b162, Sum.inr (.int, [(.int (58 : Int32)), (.int (65 : Int32)), (.int (90 : Int32)), (.int (95 : Int32)), (.int (97 : Int32)), (.int (0 : Int32)), (.int (0 : Int32)), (.int (0 : Int32)), (.int (0 : Int32)), (.int (0 : Int32)), (.int (0 : Int32)), (.int (0 : Int32)), (.int (0 : Int32)), (.int (0 : Int32)), (.int (0 : Int32)), (.int (0 : Int32)), (.int (0 : Int32)), (.int (0 : Int32)), (.int (0 : Int32)), (.int (0 : Int32)), (.int (0 : Int32)), (.int (0 : Int32)), (.int (0 : Int32)), (.int (0 : Int32)), (.int (0 : Int32)), (.int (0 : Int32)), (.int (0 : Int32)), (.int (0 : Int32)), (.int (0 : Int32)), (.int (0 : Int32)), (.int (0 : Int32)), (.int (0 : Int32)), (.int (0 : Int32))])) : Addr × OObj) :: []) := V166.putA 0 rfl W167
  have N167 := Fr.snoc X167 N166 (V166.old 0 rfl)
  have Z167 : n0 ≤ h167.size := by rw [W167.size]; exact Z166
  refine OGets.step st167 ?_
  show OGets p e below _ (T167.setTop (mkF m 29 #[.val (.int p0), .val (.int p1), .unset, .unset, .unset] [(.ref b162)]))
  refine OGets.step (fun _ => XS.dup X167.here hx rfl (hb hby at_29) rfl rfl) ?_
  show OGets p e below _ (T167.setTop (mkF m 30 #[.val (.int p0), .val (.int p1), .unset, .unset, .unset] [(.ref b162), (.ref b162)]))
  refine OGets.step (fun _ => XS.iconst X167.here hx rfl (hb hby at_30)) ?_
  show OGets p e below _ (T167.setTop (mkF m 31 #[.val (.int p0), .val (.int p1), .unset, .unset, .unset] [(.int (5 : Int32)), (.ref b162), (.ref b162)]))
  refine OGets.step (fun _ => XS.bipush X167.here hx rfl (hb hby at_31)) ?_
  show OGets p e below _ (T167.setTop (mkF m 33 #[.val (.int p0), .val (.int p1), .unset, .unset, .unset] [(.int (122 : Int32)), (.int (5 : Int32)), (.ref b162), (.ref b162)]))
  obtain ⟨cl168, Ar168, S168⟩ := V167.arr 0 rfl
  obtain ⟨T168, h168, X168, e168, W168', st168⟩ := stI X167 hx hZ e167 Ar168 (j := (5 : Int32)) (own_inb S168 5 (by decide) (by decide)) (g := (mkF m 33 #[.val (.int p0), .val (.int p1), .unset, .unset, .unset] [(.int (122 : Int32)), (.int (5 : Int32)), (.ref b162), (.ref b162)])) rfl rfl (hb hby at_33)
  have W168 := own_wr (vs := []) 5 (by decide) W168'
  have V168 : OView Z n0 h168 (((b162, Sum.inr (.int, [(.int (58 : Int32)), (.int (65 : Int32)), (.int (90 : Int32)), (.int (95 : Int32)), (.int (97 : Int32)), (.int (122 : Int32)), (.int (0 : Int32)), (.int (0 : Int32)), (.int (0 : Int32)), (.int (0 : Int32)), (.int (0 : Int32)), (.int (0 : Int32)), (.int (0 : Int32)), (.int (0 : Int32)), (.int (0 : Int32)), (.int (0 : Int32)), (.int (0 : Int32)), (.int (0 : Int32)), (.int (0 : Int32)), (.int (0 : Int32)), (.int (0 : Int32)), (.int (0 : Int32)), (.int (0 : Int32)), (.int (0 : Int32)), (.int (0 : Int32)), (.int (0 : Int32)), (.int (0 : Int32)), (.int (0 : Int32)), (.int (0 : Int32)), (.int (0 : Int32)), (.int (0 : Int32)), (.int (0 : Int32)), (.int (0 : Int32))])) : Addr × OObj) :: []) := V167.putA 0 rfl W168
  have N168 := Fr.snoc X168 N167 (V167.old 0 rfl)
  have Z168 : n0 ≤ h168.size := by rw [W168.size]; exact Z167
  refine OGets.step st168 ?_
  show OGets p e below _ (T168.setTop (mkF m 34 #[.val (.int p0), .val (.int p1), .unset, .unset, .unset] [(.ref b162)]))
  refine OGets.step (fun _ => XS.dup X168.here hx rfl (hb hby at_34) rfl rfl) ?_
  show OGets p e below _ (T168.setTop (mkF m 35 #[.val (.int p0), .val (.int p1), .unset, .unset, .unset] [(.ref b162), (.ref b162)]))
  refine OGets.step (fun _ => XS.bipush X168.here hx rfl (hb hby at_35)) ?_
  show OGets p e below _ (T168.setTop (mkF m 37 #[.val (.int p0), .val (.int p1), .unset, .unset, .unset] [(.int (6 : Int32)), (.ref b162), (.ref b162)]))
  refine OGets.step (fun _ => XS.sipush X168.here hx rfl (hb hby at_37)) ?_
  show OGets p e below _ (T168.setTop (mkF m 40 #[.val (.int p0), .val (.int p1), .unset, .unset, .unset] [(.int (128 : Int32)), (.int (6 : Int32)), (.ref b162), (.ref b162)]))
  obtain ⟨cl169, Ar169, S169⟩ := V168.arr 0 rfl
  obtain ⟨T169, h169, X169, e169, W169', st169⟩ := stI X168 hx hZ e168 Ar169 (j := (6 : Int32)) (own_inb S169 6 (by decide) (by decide)) (g := (mkF m 40 #[.val (.int p0), .val (.int p1), .unset, .unset, .unset] [(.int (128 : Int32)), (.int (6 : Int32)), (.ref b162), (.ref b162)])) rfl rfl (hb hby at_40)
  have W169 := own_wr (vs := []) 6 (by decide) W169'
  have V169 : OView Z n0 h169 (((b162, Sum.inr (.int, [(.int (58 : Int32)), (.int (65 : Int32)), (.int (90 : Int32)), (.int (95 : Int32)), (.int (97 : Int32)), (.int (122 : Int32)), (.int (128 : Int32)), (.int (0 : Int32)), (.int (0 : Int32)), (.int (0 : Int32)), (.int (0 : Int32)), (.int (0 : Int32)), (.int (0 : Int32)), (.int (0 : Int32)), (.int (0 : Int32)), (.int (0 : Int32)), (.int (0 : Int32)), (.int (0 : Int32)), (.int (0 : Int32)), (.int (0 : Int32)), (.int (0 : Int32)), (.int (0 : Int32)), (.int (0 : Int32)), (.int (0 : Int32)), (.int (0 : Int32)), (.int (0 : Int32)), (.int (0 : Int32)), (.int (0 : Int32)), (.int (0 : Int32)), (.int (0 : Int32)), (.int (0 : Int32)), (.int (0 : Int32)), (.int (0 : Int32))])) : Addr × OObj) :: []) := V168.putA 0 rfl W169
  have N169 := Fr.snoc X169 N168 (V168.old 0 rfl)
  have Z169 : n0 ≤ h169.size := by rw [W169.size]; exact Z168
  refine OGets.step st169 ?_
  show OGets p e below _ (T169.setTop (mkF m 41 #[.val (.int p0), .val (.int p1), .unset, .unset, .unset] [(.ref b162)]))
  refine OGets.step (fun _ => XS.dup X169.here hx rfl (hb hby at_41) rfl rfl) ?_
  show OGets p e below _ (T169.setTop (mkF m 42 #[.val (.int p0), .val (.int p1), .unset, .unset, .unset] [(.ref b162), (.ref b162)]))
  refine OGets.step (fun _ => XS.bipush X169.here hx rfl (hb hby at_42)) ?_
  show OGets p e below _ (T169.setTop (mkF m 44 #[.val (.int p0), .val (.int p1), .unset, .unset, .unset] [(.int (7 : Int32)), (.ref b162), (.ref b162)]))
  refine OGets.step (fun _ => XS.sipush X169.here hx rfl (hb hby at_44)) ?_
  show OGets p e below _ (T169.setTop (mkF m 47 #[.val (.int p0), .val (.int p1), .unset, .unset, .unset] [(.int (192 : Int32)), (.int (7 : Int32)), (.ref b162), (.ref b162)]))
  obtain ⟨cl170, Ar170, S170⟩ := V169.arr 0 rfl
  obtain ⟨T170, h170, X170, e170, W170', st170⟩ := stI X169 hx hZ e169 Ar170 (j := (7 : Int32)) (own_inb S170 7 (by decide) (by decide)) (g := (mkF m 47 #[.val (.int p0), .val (.int p1), .unset, .unset, .unset] [(.int (192 : Int32)), (.int (7 : Int32)), (.ref b162), (.ref b162)])) rfl rfl (hb hby at_47)
  have W170 := own_wr (vs := []) 7 (by decide) W170'
  have V170 : OView Z n0 h170 (((b162, Sum.inr (.int, [(.int (58 : Int32)), (.int (65 : Int32)), (.int (90 : Int32)), (.int (95 : Int32)), (.int (97 : Int32)), (.int (122 : Int32)), (.int (128 : Int32)), (.int (192 : Int32)), (.int (0 : Int32)), (.int (0 : Int32)), (.int (0 : Int32)), (.int (0 : Int32)), (.int (0 : Int32)), (.int (0 : Int32)), (.int (0 : Int32)), (.int (0 : Int32)), (.int (0 : Int32)), (.int (0 : Int32)), (.int (0 : Int32)), (.int (0 : Int32)), (.int (0 : Int32)), (.int (0 : Int32)), (.int (0 : Int32)), (.int (0 : Int32)), (.int (0 : Int32)), (.int (0 : Int32)), (.int (0 : Int32)), (.int (0 : Int32)), (.int (0 : Int32)), (.int (0 : Int32)), (.int (0 : Int32)), (.int (0 : Int32)), (.int (0 : Int32))])) : Addr × OObj) :: []) := V169.putA 0 rfl W170
  have N170 := Fr.snoc X170 N169 (V169.old 0 rfl)
  have Z170 : n0 ≤ h170.size := by rw [W170.size]; exact Z169
  refine OGets.step st170 ?_
  show OGets p e below _ (T170.setTop (mkF m 48 #[.val (.int p0), .val (.int p1), .unset, .unset, .unset] [(.ref b162)]))
  refine OGets.step (fun _ => XS.dup X170.here hx rfl (hb hby at_48) rfl rfl) ?_
  show OGets p e below _ (T170.setTop (mkF m 49 #[.val (.int p0), .val (.int p1), .unset, .unset, .unset] [(.ref b162), (.ref b162)]))
  refine OGets.step (fun _ => XS.bipush X170.here hx rfl (hb hby at_49)) ?_
  show OGets p e below _ (T170.setTop (mkF m 51 #[.val (.int p0), .val (.int p1), .unset, .unset, .unset] [(.int (8 : Int32)), (.ref b162), (.ref b162)]))
  refine OGets.step (fun _ => XS.sipush X170.here hx rfl (hb hby at_51)) ?_
  show OGets p e below _ (T170.setTop (mkF m 54 #[.val (.int p0), .val (.int p1), .unset, .unset, .unset] [(.int (214 : Int32)), (.int (8 : Int32)), (.ref b162), (.ref b162)]))
  obtain ⟨cl171, Ar171, S171⟩ := V170.arr 0 rfl
  obtain ⟨T171, h171, X171, e171, W171', st171⟩ := stI X170 hx hZ e170 Ar171 (j := (8 : Int32)) (own_inb S171 8 (by decide) (by decide)) (g := (mkF m 54 #[.val (.int p0), .val (.int p1), .unset, .unset, .unset] [(.int (214 : Int32)), (.int (8 : Int32)), (.ref b162), (.ref b162)])) rfl rfl (hb hby at_54)
  have W171 := own_wr (vs := []) 8 (by decide) W171'
  have V171 : OView Z n0 h171 (((b162, Sum.inr (.int, [(.int (58 : Int32)), (.int (65 : Int32)), (.int (90 : Int32)), (.int (95 : Int32)), (.int (97 : Int32)), (.int (122 : Int32)), (.int (128 : Int32)), (.int (192 : Int32)), (.int (214 : Int32)), (.int (0 : Int32)), (.int (0 : Int32)), (.int (0 : Int32)), (.int (0 : Int32)), (.int (0 : Int32)), (.int (0 : Int32)), (.int (0 : Int32)), (.int (0 : Int32)), (.int (0 : Int32)), (.int (0 : Int32)), (.int (0 : Int32)), (.int (0 : Int32)), (.int (0 : Int32)), (.int (0 : Int32)), (.int (0 : Int32)), (.int (0 : Int32)), (.int (0 : Int32)), (.int (0 : Int32)), (.int (0 : Int32)), (.int (0 : Int32)), (.int (0 : Int32)), (.int (0 : Int32)), (.int (0 : Int32)), (.int (0 : Int32))])) : Addr × OObj) :: []) := V170.putA 0 rfl W171
  have N171 := Fr.snoc X171 N170 (V170.old 0 rfl)
  have Z171 : n0 ≤ h171.size := by rw [W171.size]; exact Z170
  refine OGets.step st171 ?_
  show OGets p e below _ (T171.setTop (mkF m 55 #[.val (.int p0), .val (.int p1), .unset, .unset, .unset] [(.ref b162)]))
  refine OGets.step (fun _ => XS.dup X171.here hx rfl (hb hby at_55) rfl rfl) ?_
  show OGets p e below _ (T171.setTop (mkF m 56 #[.val (.int p0), .val (.int p1), .unset, .unset, .unset] [(.ref b162), (.ref b162)]))
  refine OGets.step (fun _ => XS.bipush X171.here hx rfl (hb hby at_56)) ?_
  show OGets p e below _ (T171.setTop (mkF m 58 #[.val (.int p0), .val (.int p1), .unset, .unset, .unset] [(.int (9 : Int32)), (.ref b162), (.ref b162)]))
  refine OGets.step (fun _ => XS.sipush X171.here hx rfl (hb hby at_58)) ?_
  show OGets p e below _ (T171.setTop (mkF m 61 #[.val (.int p0), .val (.int p1), .unset, .unset, .unset] [(.int (216 : Int32)), (.int (9 : Int32)), (.ref b162), (.ref b162)]))
  obtain ⟨cl172, Ar172, S172⟩ := V171.arr 0 rfl
  obtain ⟨T172, h172, X172, e172, W172', st172⟩ := stI X171 hx hZ e171 Ar172 (j := (9 : Int32)) (own_inb S172 9 (by decide) (by decide)) (g := (mkF m 61 #[.val (.int p0), .val (.int p1), .unset, .unset, .unset] [(.int (216 : Int32)), (.int (9 : Int32)), (.ref b162), (.ref b162)])) rfl rfl (hb hby at_61)
  have W172 := own_wr (vs := []) 9 (by decide) W172'
  have V172 : OView Z n0 h172 (((b162, Sum.inr (.int, [(.int (58 : Int32)), (.int (65 : Int32)), (.int (90 : Int32)), (.int (95 : Int32)), (.int (97 : Int32)), (.int (122 : Int32)), (.int (128 : Int32)), (.int (192 : Int32)), (.int (214 : Int32)), (.int (216 : Int32)), (.int (0 : Int32)), (.int (0 : Int32)), (.int (0 : Int32)), (.int (0 : Int32)), (.int (0 : Int32)), (.int (0 : Int32)), (.int (0 : Int32)), (.int (0 : Int32)), (.int (0 : Int32)), (.int (0 : Int32)), (.int (0 : Int32)), (.int (0 : Int32)), (.int (0 : Int32)), (.int (0 : Int32)), (.int (0 : Int32)), (.int (0 : Int32)), (.int (0 : Int32)), (.int (0 : Int32)), (.int (0 : Int32)), (.int (0 : Int32)), (.int (0 : Int32)), (.int (0 : Int32)), (.int (0 : Int32))])) : Addr × OObj) :: []) := V171.putA 0 rfl W172
  have N172 := Fr.snoc X172 N171 (V171.old 0 rfl)
  have Z172 : n0 ≤ h172.size := by rw [W172.size]; exact Z171
  refine OGets.step st172 ?_
  show OGets p e below _ (T172.setTop (mkF m 62 #[.val (.int p0), .val (.int p1), .unset, .unset, .unset] [(.ref b162)]))
  refine OGets.step (fun _ => XS.dup X172.here hx rfl (hb hby at_62) rfl rfl) ?_
  show OGets p e below _ (T172.setTop (mkF m 63 #[.val (.int p0), .val (.int p1), .unset, .unset, .unset] [(.ref b162), (.ref b162)]))
  refine OGets.step (fun _ => XS.bipush X172.here hx rfl (hb hby at_63)) ?_
  show OGets p e below _ (T172.setTop (mkF m 65 #[.val (.int p0), .val (.int p1), .unset, .unset, .unset] [(.int (10 : Int32)), (.ref b162), (.ref b162)]))
  refine OGets.step (fun _ => XS.sipush X172.here hx rfl (hb hby at_65)) ?_
  show OGets p e below _ (T172.setTop (mkF m 68 #[.val (.int p0), .val (.int p1), .unset, .unset, .unset] [(.int (246 : Int32)), (.int (10 : Int32)), (.ref b162), (.ref b162)]))
  obtain ⟨cl173, Ar173, S173⟩ := V172.arr 0 rfl
  obtain ⟨T173, h173, X173, e173, W173', st173⟩ := stI X172 hx hZ e172 Ar173 (j := (10 : Int32)) (own_inb S173 10 (by decide) (by decide)) (g := (mkF m 68 #[.val (.int p0), .val (.int p1), .unset, .unset, .unset] [(.int (246 : Int32)), (.int (10 : Int32)), (.ref b162), (.ref b162)])) rfl rfl (hb hby at_68)
  have W173 := own_wr (vs := []) 10 (by decide) W173'
  have V173 : OView Z n0 h173 (((b162, Sum.inr (.int, [(.int (58 : Int32)), (.int (65 : Int32)), (.int (90 : Int32)), (.int (95 : Int32)), (.int (97 : Int32)), (.int (122 : Int32)), (.int (128 : Int32)), (.int (192 : Int32)), (.int (214 : Int32)), (.int (216 : Int32)), (.int (246 : Int32)), (.int (0 : Int32)), (.int (0 : Int32)), (.int (0 : Int32)), (.int (0 : Int32)), (.int (0 : Int32)), (.int (0 : Int32)), (.int (0 : Int32)), (.int (0 : Int32)), (.int (0 : Int32)), (.int (0 : Int32)), (.int (0 : Int32)), (.int (0 : Int32)), (.int (0 : Int32)), (.int (0 : Int32)), (.int (0 : Int32)), (.int (0 : Int32)), (.int (0 : Int32)), (.int (0 : Int32)), (.int (0 : Int32)), (.int (0 : Int32)), (.int (0 : Int32)), (.int (0 : Int32))])) : Addr × OObj) :: []) := V172.putA 0 rfl W173
  have N173 := Fr.snoc X173 N172 (V172.old 0 rfl)
  have Z173 : n0 ≤ h173.size := by rw [W173.size]; exact Z172
  refine OGets.step st173 ?_
  show OGets p e below _ (T173.setTop (mkF m 69 #[.val (.int p0), .val (.int p1), .unset, .unset, .unset] [(.ref b162)]))
  refine OGets.step (fun _ => XS.dup X173.here hx rfl (hb hby at_69) rfl rfl) ?_
  show OGets p e below _ (T173.setTop (mkF m 70 #[.val (.int p0), .val (.int p1), .unset, .unset, .unset] [(.ref b162), (.ref b162)]))
  refine OGets.step (fun _ => XS.bipush X173.here hx rfl (hb hby at_70)) ?_
  show OGets p e below _ (T173.setTop (mkF m 72 #[.val (.int p0), .val (.int p1), .unset, .unset, .unset] [(.int (11 : Int32)), (.ref b162), (.ref b162)]))
  refine OGets.step (fun _ => XS.sipush X173.here hx rfl (hb hby at_72)) ?_
  show OGets p e below _ (T173.setTop (mkF m 75 #[.val (.int p0), .val (.int p1), .unset, .unset, .unset] [(.int (248 : Int32)), (.int (11 : Int32)), (.ref b162), (.ref b162)]))
  obtain ⟨cl174, Ar174, S174⟩ := V173.arr 0 rfl
  obtain ⟨T174, h174, X174, e174, W174', st174⟩ := stI X173 hx hZ e173 Ar174 (j := (11 : Int32)) (own_inb S174 11 (by decide) (by decide)) (g := (mkF m 75 #[.val (.int p0), .val (.int p1), .unset, .unset, .unset] [(.int (248 : Int32)), (.int (11 : Int32)), (.ref b162), (.ref b162)])) rfl rfl (hb hby at_75)
  have W174 := own_wr (vs := []) 11 (by decide) W174'
  have V174 : OView Z n0 h174 (((b162, Sum.inr (.int, [(.int (58 : Int32)), (.int (65 : Int32)), (.int (90 : Int32)), (.int (95 : Int32)), (.int (97 : Int32)), (.int (122 : Int32)), (.int (128 : Int32)), (.int (192 : Int32)), (.int (214 : Int32)), (.int (216 : Int32)), (.int (246 : Int32)), (.int (248 : Int32)), (.int (0 : Int32)), (.int (0 : Int32)), (.int (0 : Int32)), (.int (0 : Int32)), (.int (0 : Int32)), (.int (0 : Int32)), (.int (0 : Int32)), (.int (0 : Int32)), (.int (0 : Int32)), (.int (0 : Int32)), (.int (0 : Int32)), (.int (0 : Int32)), (.int (0 : Int32)), (.int (0 : Int32)), (.int (0 : Int32)), (.int (0 : Int32)), (.int (0 : Int32)), (.int (0 : Int32)), (.int (0 : Int32)), (.int (0 : Int32)), (.int (0 : Int32))])) : Addr × OObj) :: []) := V173.putA 0 rfl W174
  have N174 := Fr.snoc X174 N173 (V173.old 0 rfl)
  have Z174 : n0 ≤ h174.size := by rw [W174.size]; exact Z173
  refine OGets.step st174 ?_
  show OGets p e below _ (T174.setTop (mkF m 76 #[.val (.int p0), .val (.int p1), .unset, .unset, .unset] [(.ref b162)]))
  refine OGets.step (fun _ => XS.dup X174.here hx rfl (hb hby at_76) rfl rfl) ?_
  show OGets p e below _ (T174.setTop (mkF m 77 #[.val (.int p0), .val (.int p1), .unset, .unset, .unset] [(.ref b162), (.ref b162)]))
  refine OGets.step (fun _ => XS.bipush X174.here hx rfl (hb hby at_77)) ?_
  show OGets p e below _ (T174.setTop (mkF m 79 #[.val (.int p0), .val (.int p1), .unset, .unset, .unset] [(.int (12 : Int32)), (.ref b162), (.ref b162)]))
  refine OGets.step (fun _ => XS.sipush X174.here hx rfl (hb hby at_79)) ?_
  show OGets p e below _ (T174.setTop (mkF m 82 #[.val (.int p0), .val (.int p1), .unset, .unset, .unset] [(.int (767 : Int32)), (.int (12 : Int32)), (.ref b162), (.ref b162)]))
  obtain ⟨cl175, Ar175, S175⟩ := V174.arr 0 rfl
  obtain ⟨T175, h175, X175, e175, W175', st175⟩ := stI X174 hx hZ e174 Ar175 (j := (12 : Int32)) (own_inb S175 12 (by decide) (by decide)) (g := (mkF m 82 #[.val (.int p0), .val (.int p1), .unset, .unset, .unset] [(.int (767 : Int32)), (.int (12 : Int32)), (.ref b162), (.ref b162)])) rfl rfl (hb hby at_82)
  have W175 := own_wr (vs := []) 12 (by decide) W175'
  have V175 : OView Z n0 h175 (((b162, Sum.inr (.int, [(.int (58 : Int32)), (.int (65 : Int32)), (.int (90 : Int32)), (.int (95 : Int32)), (.int (97 : Int32)), (.int (122 : Int32)), (.int (128 : Int32)), (.int (192 : Int32)), (.int (214 : Int32)), (.int (216 : Int32)), (.int (246 : Int32)), (.int (248 : Int32)), (.int (767 : Int32)), (.int (0 : Int32)), (.int (0 : Int32)), (.int (0 : Int32)), (.int (0 : Int32)), (.int (0 : Int32)), (.int (0 : Int32)), (.int (0 : Int32)), (.int (0 : Int32)), (.int (0 : Int32)), (.int (0 : Int32)), (.int (0 : Int32)), (.int (0 : Int32)), (.int (0 : Int32)), (.int (0 : Int32)), (.int (0 : Int32)), (.int (0 : Int32)), (.int (0 : Int32)), (.int (0 : Int32)), (.int (0 : Int32)), (.int (0 : Int32))])) : Addr × OObj) :: []) := V174.putA 0 rfl W175
  have N175 := Fr.snoc X175 N174 (V174.old 0 rfl)
  have Z175 : n0 ≤ h175.size := by rw [W175.size]; exact Z174
  refine OGets.step st175 ?_
  show OGets p e below _ (T175.setTop (mkF m 83 #[.val (.int p0), .val (.int p1), .unset, .unset, .unset] [(.ref b162)]))
  refine OGets.step (fun _ => XS.dup X175.here hx rfl (hb hby at_83) rfl rfl) ?_
  show OGets p e below _ (T175.setTop (mkF m 84 #[.val (.int p0), .val (.int p1), .unset, .unset, .unset] [(.ref b162), (.ref b162)]))
  refine OGets.step (fun _ => XS.bipush X175.here hx rfl (hb hby at_84)) ?_
  show OGets p e below _ (T175.setTop (mkF m 86 #[.val (.int p0), .val (.int p1), .unset, .unset, .unset] [(.int (13 : Int32)), (.ref b162), (.ref b162)]))
  refine OGets.step (fun _ => XS.sipush X175.here hx rfl (hb hby at_86)) ?_
  show OGets p e below _ (T175.setTop (mkF m 89 #[.val (.int p0), .val (.int p1), .unset, .unset, .unset] [(.int (880 : Int32)), (.int (13 : Int32)), (.ref b162), (.ref b162)]))
  obtain ⟨cl176, Ar176, S176⟩ := V175.arr 0 rfl
  obtain ⟨T176, h176, X176, e176, W176', st176⟩ := stI X175 hx hZ e175 Ar176 (j := (13 : Int32)) (own_inb S176 13 (by decide) (by decide)) (g := (mkF m 89 #[.val (.int p0), .val (.int p1), .unset, .unset, .unset] [(.int (880 : Int32)), (.int (13 : Int32)), (.ref b162), (.ref b162)])) rfl rfl (hb hby at_89)
  have W176 := own_wr (vs := []) 13 (by decide) W176'
  have V176 : OView Z n0 h176 (((b162, Sum.inr (.int, [(.int (58 : Int32)), (.int (65 : Int32)), (.int (90 : Int32)), (.int (95 : Int32)), (.int (97 : Int32)), (.int (122 : Int32)), (.int (128 : Int32)), (.int (192 : Int32)), (.int (214 : Int32)), (.int (216 : Int32)), (.int (246 : Int32)), (.int (248 : Int32)), (.int (767 : Int32)), (.int (880 : Int32)), (.int (0 : Int32)), (.int (0 : Int32)), (.int (0 : Int32)), (.int (0 : Int32)), (.int (0 : Int32)), (.int (0 : Int32)), (.int (0 : Int32)), (.int (0 : Int32)), (.int (0 : Int32)), (.int (0 : Int32)), (.int (0 : Int32)), (.int (0 : Int32)), (.int (0 : Int32)), (.int (0 : Int32)), (.int (0 : Int32)), (.int (0 : Int32)), (.int (0 : Int32)), (.int (0 : Int32)), (.int (0 : Int32))])) : Addr × OObj) :: []) := V175.putA 0 rfl W176
  have N176 := Fr.snoc X176 N175 (V175.old 0 rfl)
  have Z176 : n0 ≤ h176.size := by rw [W176.size]; exact Z175
  refine OGets.step st176 ?_
  show OGets p e below _ (T176.setTop (mkF m 90 #[.val (.int p0), .val (.int p1), .unset, .unset, .unset] [(.ref b162)]))
  refine OGets.step (fun _ => XS.dup X176.here hx rfl (hb hby at_90) rfl rfl) ?_
  show OGets p e below _ (T176.setTop (mkF m 91 #[.val (.int p0), .val (.int p1), .unset, .unset, .unset] [(.ref b162), (.ref b162)]))
  refine OGets.step (fun _ => XS.bipush X176.here hx rfl (hb hby at_91)) ?_
  show OGets p e below _ (T176.setTop (mkF m 93 #[.val (.int p0), .val (.int p1), .unset, .unset, .unset] [(.int (14 : Int32)), (.ref b162), (.ref b162)]))
  refine OGets.step (fun _ => XS.sipush X176.here hx rfl (hb hby at_93)) ?_
  show OGets p e below _ (T176.setTop (mkF m 96 #[.val (.int p0), .val (.int p1), .unset, .unset, .unset] [(.int (893 : Int32)), (.int (14 : Int32)), (.ref b162), (.ref b162)]))
  obtain ⟨cl177, Ar177, S177⟩ := V176.arr 0 rfl
  obtain ⟨T177, h177, X177, e177, W177', st177⟩ := stI X176 hx hZ e176 Ar177 (j := (14 : Int32)) (own_inb S177 14 (by decide) (by decide)) (g := (mkF m 96 #[.val (.int p0), .val (.int p1), .unset, .unset, .unset] [(.int (893 : Int32)), (.int (14 : Int32)), (.ref b162), (.ref b162)])) rfl rfl (hb hby at_96)
  have W177 := own_wr (vs := []) 14 (by decide) W177'
  have V177 : OView Z n0 h177 (((b162, Sum.inr (.int, [(.int (58 : Int32)), (.int (65 : Int32)), (.int (90 : Int32)), (.int (95 : Int32)), (.int (97 : Int32)), (.int (122 : Int32)), (.int (128 : Int32)), (.int (192 : Int32)), (.int (214 : Int32)), (.int (216 : Int32)), (.int (246 : Int32)), (.int (248 : Int32)), (.int (767 : Int32)), (.int (880 : Int32)), (.int (893 : Int32)), (.int (0 : Int32)), (.int (0 : Int32)), (.int (0 : Int32)), (.int (0 : Int32)), (.int (0 : Int32)), (.int (0 : Int32)), (.int (0 : Int32)), (.int (0 : Int32)), (.int (0 : Int32)), (.int (0 : Int32)), (.int (0 : Int32)), (.int (0 : Int32)), (.int (0 : Int32)), (.int (0 : Int32)), (.int (0 : Int32)), (.int (0 : Int32)), (.int (0 : Int32)), (.int (0 : Int32))])) : Addr × OObj) :: []) := V176.putA 0 rfl W177
  have N177 := Fr.snoc X177 N176 (V176.old 0 rfl)
  have Z177 : n0 ≤ h177.size := by rw [W177.size]; exact Z176
  refine OGets.step st177 ?_
  show OGets p e below _ (T177.setTop (mkF m 97 #[.val (.int p0), .val (.int p1), .unset, .unset, .unset] [(.ref b162)]))
  refine OGets.step (fun _ => XS.dup X177.here hx rfl (hb hby at_97) rfl rfl) ?_
  show OGets p e below _ (T177.setTop (mkF m 98 #[.val (.int p0), .val (.int p1), .unset, .unset, .unset] [(.ref b162), (.ref b162)]))
  refine OGets.step (fun _ => XS.bipush X177.here hx rfl (hb hby at_98)) ?_
  show OGets p e below _ (T177.setTop (mkF m 100 #[.val (.int p0), .val (.int p1), .unset, .unset, .unset] [(.int (15 : Int32)), (.ref b162), (.ref b162)]))
  refine OGets.step (fun _ => XS.sipush X177.here hx rfl (hb hby at_100)) ?_
  show OGets p e below _ (T177.setTop (mkF m 103 #[.val (.int p0), .val (.int p1), .unset, .unset, .unset] [(.int (895 : Int32)), (.int (15 : Int32)), (.ref b162), (.ref b162)]))
  obtain ⟨cl178, Ar178, S178⟩ := V177.arr 0 rfl
  obtain ⟨T178, h178, X178, e178, W178', st178⟩ := stI X177 hx hZ e177 Ar178 (j := (15 : Int32)) (own_inb S178 15 (by decide) (by decide)) (g := (mkF m 103 #[.val (.int p0), .val (.int p1), .unset, .unset, .unset] [(.int (895 : Int32)), (.int (15 : Int32)), (.ref b162), (.ref b162)])) rfl rfl (hb hby at_103)
  have W178 := own_wr (vs := []) 15 (by decide) W178'
  have V178 : OView Z n0 h178 (((b162, Sum.inr (.int, [(.int (58 : Int32)), (.int (65 : Int32)), (.int (90 : Int32)), (.int (95 : Int32)), (.int (97 : Int32)), (.int (122 : Int32)), (.int (128 : Int32)), (.int (192 : Int32)), (.int (214 : Int32)), (.int (216 : Int32)), (.int (246 : Int32)), (.int (248 : Int32)), (.int (767 : Int32)), (.int (880 : Int32)), (.int (893 : Int32)), (.int (895 : Int32)), (.int (0 : Int32)), (.int (0 : Int32)), (.int (0 : Int32)), (.int (0 : Int32)), (.int (0 : Int32)), (.int (0 : Int32)), (.int (0 : Int32)), (.int (0 : Int32)), (.int (0 : Int32)), (.int (0 : Int32)), (.int (0 : Int32)), (.int (0 : Int32)), (.int (0 : Int32)), (.int (0 : Int32)), (.int (0 : Int32)), (.int (0 : Int32)), (.int (0 : Int32))])) : Addr × OObj) :: []) := V177.putA 0 rfl W178
  have N178 := Fr.snoc X178 N177 (V177.old 0 rfl)
  have Z178 : n0 ≤ h178.size := by rw [W178.size]; exact Z177
  refine OGets.step st178 ?_
  show OGets p e below _ (T178.setTop (mkF m 104 #[.val (.int p0), .val (.int p1), .unset, .unset, .unset] [(.ref b162)]))
  refine OGets.step (fun _ => XS.dup X178.here hx rfl (hb hby at_104) rfl rfl) ?_
  show OGets p e below _ (T178.setTop (mkF m 105 #[.val (.int p0), .val (.int p1), .unset, .unset, .unset] [(.ref b162), (.ref b162)]))
  refine OGets.step (fun _ => XS.bipush X178.here hx rfl (hb hby at_105)) ?_
  show OGets p e below _ (T178.setTop (mkF m 107 #[.val (.int p0), .val (.int p1), .unset, .unset, .unset] [(.int (16 : Int32)), (.ref b162), (.ref b162)]))
  refine OGets.step (fun _ => XS.sipush X178.here hx rfl (hb hby at_107)) ?_
  show OGets p e below _ (T178.setTop (mkF m 110 #[.val (.int p0), .val (.int p1), .unset, .unset, .unset] [(.int (8191 : Int32)), (.int (16 : Int32)), (.ref b162), (.ref b162)]))
  obtain ⟨cl179, Ar179, S179⟩ := V178.arr 0 rfl
  obtain ⟨T179, h179, X179, e179, W179', st179⟩ := stI X178 hx hZ e178 Ar179 (j := (16 : Int32)) (own_inb S179 16 (by decide) (by decide)) (g := (mkF m 110 #[.val (.int p0), .val (.int p1), .unset, .unset, .unset] [(.int (8191 : Int32)), (.int (16 : Int32)), (.ref b162), (.ref b162)])) rfl rfl (hb hby at_110)
  have W179 := own_wr (vs := []) 16 (by decide) W179'
  have V179 : OView Z n0 h179 (((b162, Sum.inr (.int, [(.int (58 : Int32)), (.int (65 : Int32)), (.int (90 : Int32)), (.int (95 : Int32)), (.int (97 : Int32)), (.int (122 : Int32)), (.int (128 : Int32)), (.int (192 : Int32)), (.int (214 : Int32)), (.int (216 : Int32)), (.int (246 : Int32)), (.int (248 : Int32)), (.int (767 : Int32)), (.int (880 : Int32)), (.int (893 : Int32)), (.int (895 : Int32)), (.int (8191 : Int32)), (.int (0 : Int32)), (.int (0 : Int32)), (.int (0 : Int32)), (.int (0 : Int32)), (.int (0 : Int32)), (.int (0 : Int32)), (.int (0 : Int32)), (.int (0 : Int32)), (.int (0 : Int32)), (.int (0 : Int32)), (.int (0 : Int32)), (.int (0 : Int32)), (.int (0 : Int32)), (.int (0 : Int32)), (.int (0 : Int32)), (.int (0 : Int32))])) : Addr × OObj) :: []) := V178.putA 0 rfl W179
  have N179 := Fr.snoc X179 N178 (V178.old 0 rfl)
  have Z179 : n0 ≤ h179.size := by rw [W179.size]; exact Z178
  refine OGets.step st179 ?_
  show OGets p e below _ (T179.setTop (mkF m 111 #[.val (.int p0), .val (.int p1), .unset, .unset, .unset] [(.ref b162)]))
  refine OGets.step (fun _ => XS.dup X179.here hx rfl (hb hby at_111) rfl rfl) ?_
  show OGets p e below _ (T179.setTop (mkF m 112 #[.val (.int p0), .val (.int p1), .unset, .unset, .unset] [(.ref b162), (.ref b162)]))
  refine OGets.step (fun _ => XS.bipush X179.here hx rfl (hb hby at_112)) ?_
  show OGets p e below _ (T179.setTop (mkF m 114 #[.val (.int p0), .val (.int p1), .unset, .unset, .unset] [(.int (17 : Int32)), (.ref b162), (.ref b162)]))
  refine OGets.step (fun _ => XS.sipush X179.here hx rfl (hb hby at_114)) ?_
  show OGets p e below _ (T179.setTop (mkF m 117 #[.val (.int p0), .val (.int p1), .unset, .unset, .unset] [(.int (8204 : Int32)), (.int (17 : Int32)), (.ref b162), (.ref b162)]))
  obtain ⟨cl180, Ar180, S180⟩ := V179.arr 0 rfl
  obtain ⟨T180, h180, X180, e180, W180', st180⟩ := stI X179 hx hZ e179 Ar180 (j := (17 : Int32)) (own_inb S180 17 (by decide) (by decide)) (g := (mkF m 117 #[.val (.int p0), .val (.int p1), .unset, .unset, .unset] [(.int (8204 : Int32)), (.int (17 : Int32)), (.ref b162), (.ref b162)])) rfl rfl (hb hby at_117)
  have W180 := own_wr (vs := []) 17 (by decide) W180'
  have V180 : OView Z n0 h180 (((b162, Sum.inr (.int, [(.int (58 : Int32)), (.int (65 : Int32)), (.int (90 : Int32)), (.int (95 : Int32)), (.int (97 : Int32)), (.int (122 : Int32)), (.int (128 : Int32)), (.int (192 : Int32)), (.int (214 : Int32)), (.int (216 : Int32)), (.int (246 : Int32)), (.int (248 : Int32)), (.int (767 : Int32)), (.int (880 : Int32)), (.int (893 : Int32)), (.int (895 : Int32)), (.int (8191 : Int32)), (.int (8204 : Int32)), (.int (0 : Int32)), (.int (0 : Int32)), (.int (0 : Int32)), (.int (0 : Int32)), (.int (0 : Int32)), (.int (0 : Int32)), (.int (0 : Int32)), (.int (0 : Int32)), (.int (0 : Int32)), (.int (0 : Int32)), (.int (0 : Int32)), (.int (0 : Int32)), (.int (0 : Int32)), (.int (0 : Int32)), (.int (0 : Int32))])) : Addr × OObj) :: []) := V179.putA 0 rfl W180
  have N180 := Fr.snoc X180 N179 (V179.old 0 rfl)
  have Z180 : n0 ≤ h180.size := by rw [W180.size]; exact Z179
  refine OGets.step st180 ?_
  show OGets p e below _ (T180.setTop (mkF m 118 #[.val (.int p0), .val (.int p1), .unset, .unset, .unset] [(.ref b162)]))
  refine OGets.step (fun _ => XS.dup X180.here hx rfl (hb hby at_118) rfl rfl) ?_
  show OGets p e below _ (T180.setTop (mkF m 119 #[.val (.int p0), .val (.int p1), .unset, .unset, .unset] [(.ref b162), (.ref b162)]))
  refine OGets.step (fun _ => XS.bipush X180.here hx rfl (hb hby at_119)) ?_
  show OGets p e below _ (T180.setTop (mkF m 121 #[.val (.int p0), .val (.int p1), .unset, .unset, .unset] [(.int (18 : Int32)), (.ref b162), (.ref b162)]))
  refine OGets.step (fun _ => XS.sipush X180.here hx rfl (hb hby at_121)) ?_
  show OGets p e below _ (T180.setTop (mkF m 124 #[.val (.int p0), .val (.int p1), .unset, .unset, .unset] [(.int (8205 : Int32)), (.int (18 : Int32)), (.ref b162), (.ref b162)]))
  obtain ⟨cl181, Ar181, S181⟩ := V180.arr 0 rfl
  obtain ⟨T181, h181, X181, e181, W181', st181⟩ := stI X180 hx hZ e180 Ar181 (j := (18 : Int32)) (own_inb S181 18 (by decide) (by decide)) (g := (mkF m 124 #[.val (.int p0), .val (.int p1), .unset, .unset, .unset] [(.int (8205 : Int32)), (.int (18 : Int32)), (.ref b162), (.ref b162)])) rfl rfl (hb hby at_124)
  have W181 := own_wr (vs := []) 18 (by decide) W181'
  have V181 : OView Z n0 h181 (((b162, Sum.inr (.int, [(.int (58 : Int32)), (.int (65 : Int32)), (.int (90 : Int32)), (.int (95 : Int32)), (.int (97 : Int32)), (.int (122 : Int32)), (.int (128 : Int32)), (.int (192 : Int32)), (.int (214 : Int32)), (.int (216 : Int32)), (.int (246 : Int32)), (.int (248 : Int32)), (.int (767 : Int32)), (.int (880 : Int32)), (.int (893 : Int32)), (.int (895 : Int32)), (.int (8191 : Int32)), (.int (8204 : Int32)), (.int (8205 : Int32)), (.int (0 : Int32)), (.int (0 : Int32)), (.int (0 : Int32)), (.int (0 : Int32)), (.int (0 : Int32)), (.int (0 : Int32)), (.int (0 : Int32)), (.int (0 : Int32)), (.int (0 : Int32)), (.int (0 : Int32)), (.int (0 : Int32)), (.int (0 : Int32)), (.int (0 : Int32)), (.int (0 : Int32))])) : Addr × OObj) :: []) := V180.putA 0 rfl W181
  have N181 := Fr.snoc X181 N180 (V180.old 0 rfl)
  have Z181 : n0 ≤ h181.size := by rw [W181.size]; exact Z180
  refine OGets.step st181 ?_
  show OGets p e below _ (T181.setTop (mkF m 125 #[.val (.int p0), .val (.int p1), .unset, .unset, .unset] [(.ref b162)]))
  refine OGets.step (fun _ => XS.dup X181.here hx rfl (hb hby at_125) rfl rfl) ?_
  show OGets p e below _ (T181.setTop (mkF m 126 #[.val (.int p0), .val (.int p1), .unset, .unset, .unset] [(.ref b162), (.ref b162)]))
  refine OGets.step (fun _ => XS.bipush X181.here hx rfl (hb hby at_126)) ?_
  show OGets p e below _ (T181.setTop (mkF m 128 #[.val (.int p0), .val (.int p1), .unset, .unset, .unset] [(.int (19 : Int32)), (.ref b162), (.ref b162)]))
  refine OGets.step (fun _ => XS.sipush X181.here hx rfl (hb hby at_128)) ?_
  show OGets p e below _ (T181.setTop (mkF m 131 #[.val (.int p0), .val (.int p1), .unset, .unset, .unset] [(.int (8304 : Int32)), (.int (19 : Int32)), (.ref b162), (.ref b162)]))
  obtain ⟨cl182, Ar182, S182⟩ := V181.arr 0 rfl
  obtain ⟨T182, h182, X182, e182, W182', st182⟩ := stI X181 hx hZ e181 Ar182 (j := (19 : Int32)) (own_inb S182 19 (by decide) (by decide)) (g := (mkF m 131 #[.val (.int p0), .val (.int p1), .unset, .unset, .unset] [(.int (8304 : Int32)), (.int (19 : Int32)), (.ref b162), (.ref b162)])) rfl rfl (hb hby at_131)
  have W182 := own_wr (vs := []) 19 (by decide) W182'
  have V182 : OView Z n0 h182 (((b162, Sum.inr (.int, [(.int (58 : Int32)), (.int (65 : Int32)), (.int (90 : Int32)), (.int (95 : Int32)), (.int (97 : Int32)), (.int (122 : Int32)), (.int (128 : Int32)), (.int (192 : Int32)), (.int (214 : Int32)), (.int (216 : Int32)), (.int (246 : Int32)), (.int (248 : Int32)), (.int (767 : Int32)), (.int (880 : Int32)), (.int (893 : Int32)), (.int (895 : Int32)), (.int (8191 : Int32)), (.int (8204 : Int32)), (.int (8205 : Int32)), (.int (8304 : Int32)), (.int (0 : Int32)), (.int (0 : Int32)), (.int (0 : Int32)), (.int (0 : Int32)), (.int (0 : Int32)), (.int (0 : Int32)), (.int (0 : Int32)), (.int (0 : Int32)), (.int (0 : Int32)), (.int (0 : Int32)), (.int (0 : Int32)), (.int (0 : Int32)), (.int (0 : Int32))])) : Addr × OObj) :: []) := V181.putA 0 rfl W182
  have N182 := Fr.snoc X182 N181 (V181.old 0 rfl)
  have Z182 : n0 ≤ h182.size := by rw [W182.size]; exact Z181
  refine OGets.step st182 ?_
  show OGets p e below _ (T182.setTop (mkF m 132 #[.val (.int p0), .val (.int p1), .unset, .unset, .unset] [(.ref b162)]))
  refine OGets.step (fun _ => XS.dup X182.here hx rfl (hb hby at_132) rfl rfl) ?_
  show OGets p e below _ (T182.setTop (mkF m 133 #[.val (.int p0), .val (.int p1), .unset, .unset, .unset] [(.ref b162), (.ref b162)]))
  refine OGets.step (fun _ => XS.bipush X182.here hx rfl (hb hby at_133)) ?_
  show OGets p e below _ (T182.setTop (mkF m 135 #[.val (.int p0), .val (.int p1), .unset, .unset, .unset] [(.int (20 : Int32)), (.ref b162), (.ref b162)]))
  refine OGets.step (fun _ => XS.sipush X182.here hx rfl (hb hby at_135)) ?_
  show OGets p e below _ (T182.setTop (mkF m 138 #[.val (.int p0), .val (.int p1), .unset, .unset, .unset] [(.int (8591 : Int32)), (.int (20 : Int32)), (.ref b162), (.ref b162)]))
  obtain ⟨cl183, Ar183, S183⟩ := V182.arr 0 rfl
  obtain ⟨T183, h183, X183, e183, W183', st183⟩ := stI X182 hx hZ e182 Ar183 (j := (20 : Int32)) (own_inb S183 20 (by decide) (by decide)) (g := (mkF m 138 #[.val (.int p0), .val (.int p1), .unset, .unset, .unset] [(.int (8591 : Int32)), (.int (20 : Int32)), (.ref b162), (.ref b162)])) rfl rfl (hb hby at_138)
  have W183 := own_wr (vs := []) 20 (by decide) W183'
  have V183 : OView Z n0 h183 (((b162, Sum.inr (.int, [(.int (58 : Int32)), (.int (65 : Int32)), (.int (90 : Int32)), (.int (95 : Int32)), (.int (97 : Int32)), (.int (122 : Int32)), (.int (128 : Int32)), (.int (192 : Int32)), (.int (214 : Int32)), (.int (216 : Int32)), (.int (246 : Int32)), (.int (248 : Int32)), (.int (767 : Int32)), (.int (880 : Int32)), (.int (893 : Int32)), (.int (895 : Int32)), (.int (8191 : Int32)), (.int (8204 : Int32)), (.int (8205 : Int32)), (.int (8304 : Int32)), (.int (8591 : Int32)), (.int (0 : Int32)), (.int (0 : Int32)), (.int (0 : Int32)), (.int (0 : Int32)), (.int (0 : Int32)), (.int (0 : Int32)), (.int (0 : Int32)), (.int (0 : Int32)), (.int (0 : Int32)), (.int (0 : Int32)), (.int (0 : Int32)), (.int (0 : Int32))])) : Addr × OObj) :: []) := V182.putA 0 rfl W183
  have N183 := Fr.snoc X183 N182 (V182.old 0 rfl)
  have Z183 : n0 ≤ h183.size := by rw [W183.size]; exact Z182
  refine OGets.step st183 ?_
  show OGets p e below _ (T183.setTop (mkF m 139 #[.val (.int p0), .val (.int p1), .unset, .unset, .unset] [(.ref b162)]))
  refine OGets.step (fun _ => XS.dup X183.here hx rfl (hb hby at_139) rfl rfl) ?_
  show OGets p e below _ (T183.setTop (mkF m 140 #[.val (.int p0), .val (.int p1), .unset, .unset, .unset] [(.ref b162), (.ref b162)]))
  refine OGets.step (fun _ => XS.bipush X183.here hx rfl (hb hby at_140)) ?_
  show OGets p e below _ (T183.setTop (mkF m 142 #[.val (.int p0), .val (.int p1), .unset, .unset, .unset] [(.int (21 : Int32)), (.ref b162), (.ref b162)]))
  refine OGets.step (fun _ => XS.sipush X183.here hx rfl (hb hby at_142)) ?_
  show OGets p e below _ (T183.setTop (mkF m 145 #[.val (.int p0), .val (.int p1), .unset, .unset, .unset] [(.int (11264 : Int32)), (.int (21 : Int32)), (.ref b162), (.ref b162)]))
  obtain ⟨cl184, Ar184, S184⟩ := V183.arr 0 rfl
  obtain ⟨T184, h184, X184, e184, W184', st184⟩ := stI X183 hx hZ e183 Ar184 (j := (21 : Int32)) (own_inb S184 21 (by decide) (by decide)) (g := (mkF m 145 #[.val (.int p0), .val (.int p1), .unset, .unset, .unset] [(.int (11264 : Int32)), (.int (21 : Int32)), (.ref b162), (.ref b162)])) rfl rfl (hb hby at_145)
  have W184 := own_wr (vs := []) 21 (by decide) W184'
  have V184 : OView Z n0 h184 (((b162, Sum.inr (.int, [(.int (58 : Int32)), (.int (65 : Int32)), (.int (90 : Int32)), (.int (95 : Int32)), (.int (97 : Int32)), (.int (122 : Int32)), (.int (128 : Int32)), (.int (192 : Int32)), (.int (214 : Int32)), (.int (216 : Int32)), (.int (246 : Int32)), (.int (248 : Int32)), (.int (767 : Int32)), (.int (880 : Int32)), (.int (893 : Int32)), (.int (895 : Int32)), (.int (8191 : Int32)), (.int (8204 : Int32)), (.int (8205 : Int32)), (.int (8304 : Int32)), (.int (8591 : Int32)), (.int (11264 : Int32)), (.int (0 : Int32)), (.int (0 : Int32)), (.int (0 : Int32)), (.int (0 : Int32)), (.int (0 : Int32)), (.int (0 : Int32)), (.int (0 : Int32)), (.int (0 : Int32)), (.int (0 : Int32)), (.int (0 : Int32)), (.int (0 : Int32))])) : Addr × OObj) :: []) := V183.putA 0 rfl W184
  have N184 := Fr.snoc X184 N183 (V183.old 0 rfl)
  have Z184 : n0 ≤ h184.size := by rw [W184.size]; exact Z183
  refine OGets.step st184 ?_
  show OGets p e below _ (T184.setTop (mkF m 146 #[.val (.int p0), .val (.int p1), .unset, .unset, .unset] [(.ref b162)]))
  refine OGets.step (fun _ => XS.dup X184.here hx rfl (hb hby at_146) rfl rfl) ?_
  show OGets p e below _ (T184.setTop (mkF m 147 #[.val (.int p0), .val (.int p1), .unset, .unset, .unset] [(.ref b162), (.ref b162)]))
  refine OGets.step (fun _ => XS.bipush X184.here hx rfl (hb hby at_147)) ?_
  show OGets p e below _ (T184.setTop (mkF m 149 #[.val (.int p0), .val (.int p1), .unset, .unset, .unset] [(.int (22 : Int32)), (.ref b162), (.ref b162)]))
  refine OGets.step (fun _ => XS.sipush X184.here hx rfl (hb hby at_149)) ?_
  show OGets p e below _ (T184.setTop (mkF m 152 #[.val (.int p0), .val (.int p1), .unset, .unset, .unset] [(.int (12271 : Int32)), (.int (22 : Int32)), (.ref b162), (.ref b162)]))
  obtain ⟨cl185, Ar185, S185⟩ := V184.arr 0 rfl
  obtain ⟨T185, h185, X185, e185, W185', st185⟩ := stI X184 hx hZ e184 Ar185 (j := (22 : Int32)) (own_inb S185 22 (by decide) (by decide)) (g := (mkF m 152 #[.val (.int p0), .val (.int p1), .unset, .unset, .unset] [(.int (12271 : Int32)), (.int (22 : Int32)), (.ref b162), (.ref b162)])) rfl rfl (hb hby at_152)
  have W185 := own_wr (vs := []) 22 (by decide) W185'
  have V185 : OView Z n0 h185 (((b162, Sum.inr (.int, [(.int (58 : Int32)), (.int (65 : Int32)), (.int (90 : Int32)), (.int (95 : Int32)), (.int (97 : Int32)), (.int (122 : Int32)), (.int (128 : Int32)), (.int (192 : Int32)), (.int (214 : Int32)), (.int (216 : Int32)), (.int (246 : Int32)), (.int (248 : Int32)), (.int (767 : Int32)), (.int (880 : Int32)), (.int (893 : Int32)), (.int (895 : Int32)), (.int (8191 : Int32)), (.int (8204 : Int32)), (.int (8205 : Int32)), (.int (8304 : Int32)), (.int (8591 : Int32)), (.int (11264 : Int32)), (.int (12271 : Int32)), (.int (0 : Int32)), (.int (0 : Int32)), (.int (0 : Int32)), (.int (0 : Int32)), (.int (0 : Int32)), (.int (0 : Int32)), (.int (0 : Int32)), (.int (0 : Int32)), (.int (0 : Int32)), (.int (0 : Int32))])) : Addr × OObj) :: []) := V184.putA 0 rfl W185
  have N185 := Fr.snoc X185 N184 (V184.old 0 rfl)
  have Z185 : n0 ≤ h185.size := by rw [W185.size]; exact Z184
  refine OGets.step st185 ?_
  show OGets p e below _ (T185.setTop (mkF m 153 #[.val (.int p0), .val (.int p1), .unset, .unset, .unset] [(.ref b162)]))
  refine OGets.step (fun _ => XS.dup X185.here hx rfl (hb hby at_153) rfl rfl) ?_
  show OGets p e below _ (T185.setTop (mkF m 154 #[.val (.int p0), .val (.int p1), .unset, .unset, .unset] [(.ref b162), (.ref b162)]))
  refine OGets.step (fun _ => XS.bipush X185.here hx rfl (hb hby at_154)) ?_
  show OGets p e below _ (T185.setTop (mkF m 156 #[.val (.int p0), .val (.int p1), .unset, .unset, .unset] [(.int (23 : Int32)), (.ref b162), (.ref b162)]))
  refine OGets.step (fun _ => XS.sipush X185.here hx rfl (hb hby at_156)) ?_
  show OGets p e below _ (T185.setTop (mkF m 159 #[.val (.int p0), .val (.int p1), .unset, .unset, .unset] [(.int (12289 : Int32)), (.int (23 : Int32)), (.ref b162), (.ref b162)]))
  obtain ⟨cl186, Ar186, S186⟩ := V185.arr 0 rfl
  obtain ⟨T186, h186, X186, e186, W186', st186⟩ := stI X185 hx hZ e185 Ar186 (j := (23 : Int32)) (own_inb S186 23 (by decide) (by decide)) (g := (mkF m 159 #[.val (.int p0), .val (.int p1), .unset, .unset, .unset] [(.int (12289 : Int32)), (.int (23 : Int32)), (.ref b162), (.ref b162)])) rfl rfl (hb hby at_159)
  have W186 := own_wr (vs := []) 23 (by decide) W186'
  have V186 : OView Z n0 h186 (((b162, Sum.inr (.int, [(.int (58 : Int32)), (.int (65 : Int32)), (.int (90 : Int32)), (.int (95 : Int32)), (.int (97 : Int32)), (.int (122 : Int32)), (.int (128 : Int32)), (.int (192 : Int32)), (.int (214 : Int32)), (.int (216 : Int32)), (.int (246 : Int32)), (.int (248 : Int32)), (.int (767 : Int32)), (.int (880 : Int32)), (.int (893 : Int32)), (.int (895 : Int32)), (.int (8191 : Int32)), (.int (8204 : Int32)), (.int (8205 : Int32)), (.int (8304 : Int32)), (.int (8591 : Int32)), (.int (11264 : Int32)), (.int (12271 : Int32)), (.int (12289 : Int32)), (.int (0 : Int32)), (.int (0 : Int32)), (.int (0 : Int32)), (.int (0 : Int32)), (.int (0 : Int32)), (.int (0 : Int32)), (.int (0 : Int32)), (.int (0 : Int32)), (.int (0 : Int32))])) : Addr × OObj) :: []) := V185.putA 0 rfl W186
  have N186 := Fr.snoc X186 N185 (V185.old 0 rfl)
  have Z186 : n0 ≤ h186.size := by rw [W186.size]; exact Z185
  refine OGets.step st186 ?_
  show OGets p e below _ (T186.setTop (mkF m 160 #[.val (.int p0), .val (.int p1), .unset, .unset, .unset] [(.ref b162)]))
  refine OGets.step (fun _ => XS.dup X186.here hx rfl (hb hby at_160) rfl rfl) ?_
  show OGets p e below _ (T186.setTop (mkF m 161 #[.val (.int p0), .val (.int p1), .unset, .unset, .unset] [(.ref b162), (.ref b162)]))
  refine OGets.step (fun _ => XS.bipush X186.here hx rfl (hb hby at_161)) ?_
  show OGets p e below _ (T186.setTop (mkF m 163 #[.val (.int p0), .val (.int p1), .unset, .unset, .unset] [(.int (24 : Int32)), (.ref b162), (.ref b162)]))
  refine OGets.step (fun _ => X186.ldcInt hx hown (mvT hZ (hw _ (List.mem_of_getElem? (i := 1) rfl))) (g := (mkF m 163 #[.val (.int p0), .val (.int p1), .unset, .unset, .unset] [(.int (24 : Int32)), (.ref b162), (.ref b162)])) rfl (hb hby at_163) _) ?_
  show OGets p e below _ (T186.setTop (mkF m 165 #[.val (.int p0), .val (.int p1), .unset, .unset, .unset] [(.int (55295 : Int32)), (.int (24 : Int32)), (.ref b162), (.ref b162)]))
  obtain ⟨cl187, Ar187, S187⟩ := V186.arr 0 rfl
  obtain ⟨T187, h187, X187, e187, W187', st187⟩ := stI X186 hx hZ e186 Ar187 (j := (24 : Int32)) (own_inb S187 24 (by decide) (by decide)) (g := (mkF m 165 #[.val (.int p0), .val (.int p1), .unset, .unset, .unset] [(.int (55295 : Int32)), (.int (24 : Int32)), (.ref b162), (.ref b162)])) rfl rfl (hb hby at_165)
  have W187 := own_wr (vs := []) 24 (by decide) W187'
  have V187 : OView Z n0 h187 (((b162, Sum.inr (.int, [(.int (58 : Int32)), (.int (65 : Int32)), (.int (90 : Int32)), (.int (95 : Int32)), (.int (97 : Int32)), (.int (122 : Int32)), (.int (128 : Int32)), (.int (192 : Int32)), (.int (214 : Int32)), (.int (216 : Int32)), (.int (246 : Int32)), (.int (248 : Int32)), (.int (767 : Int32)), (.int (880 : Int32)), (.int (893 : Int32)), (.int (895 : Int32)), (.int (8191 : Int32)), (.int (8204 : Int32)), (.int (8205 : Int32)), (.int (8304 : Int32)), (.int (8591 : Int32)), (.int (11264 : Int32)), (.int (12271 : Int32)), (.int (12289 : Int32)), (.int (55295 : Int32)), (.int (0 : Int32)), (.int (0 : Int32)), (.int (0 : Int32)), (.int (0 : Int32)), (.int (0 : Int32)), (.int (0 : Int32)), (.int (0 : Int32)), (.int (0 : Int32))])) : Addr × OObj) :: []) := V186.putA 0 rfl W187
  have N187 := Fr.snoc X187 N186 (V186.old 0 rfl)
  have Z187 : n0 ≤ h187.size := by rw [W187.size]; exact Z186
  refine OGets.step st187 ?_
  show OGets p e below _ (T187.setTop (mkF m 166 #[.val (.int p0), .val (.int p1), .unset, .unset, .unset] [(.ref b162)]))
  refine OGets.step (fun _ => XS.dup X187.here hx rfl (hb hby at_166) rfl rfl) ?_
  show OGets p e below _ (T187.setTop (mkF m 167 #[.val (.int p0), .val (.int p1), .unset, .unset, .unset] [(.ref b162), (.ref b162)]))
  refine OGets.step (fun _ => XS.bipush X187.here hx rfl (hb hby at_167)) ?_
  show OGets p e below _ (T187.setTop (mkF m 169 #[.val (.int p0), .val (.int p1), .unset, .unset, .unset] [(.int (25 : Int32)), (.ref b162), (.ref b162)]))
  refine OGets.step (fun _ => X187.ldcInt hx hown (mvT hZ (hw _ (List.mem_of_getElem? (i := 2) rfl))) (g := (mkF m 169 #[.val (.int p0), .val (.int p1), .unset, .unset, .unset] [(.int (25 : Int32)), (.ref b162), (.ref b162)])) rfl (hb hby at_169) _) ?_
  show OGets p e below _ (T187.setTop (mkF m 171 #[.val (.int p0), .val (.int p1), .unset, .unset, .unset] [(.int (63744 : Int32)), (.int (25 : Int32)), (.ref b162), (.ref b162)]))
  obtain ⟨cl188, Ar188, S188⟩ := V187.arr 0 rfl
  obtain ⟨T188, h188, X188, e188, W188', st188⟩ := stI X187 hx hZ e187 Ar188 (j := (25 : Int32)) (own_inb S188 25 (by decide) (by decide)) (g := (mkF m 171 #[.val (.int p0), .val (.int p1), .unset, .unset, .unset] [(.int (63744 : Int32)), (.int (25 : Int32)), (.ref b162), (.ref b162)])) rfl rfl (hb hby at_171)
  have W188 := own_wr (vs := []) 25 (by decide) W188'
  have V188 : OView Z n0 h188 (((b162, Sum.inr (.int, [(.int (58 : Int32)), (.int (65 : Int32)), (.int (90 : Int32)), (.int (95 : Int32)), (.int (97 : Int32)), (.int (122 : Int32)), (.int (128 : Int32)), (.int (192 : Int32)), (.int (214 : Int32)), (.int (216 : Int32)), (.int (246 : Int32)), (.int (248 : Int32)), (.int (767 : Int32)), (.int (880 : Int32)), (.int (893 : Int32)), (.int (895 : Int32)), (.int (8191 : Int32)), (.int (8204 : Int32)), (.int (8205 : Int32)), (.int (8304 : Int32)), (.int (8591 : Int32)), (.int (11264 : Int32)), (.int (12271 : Int32)), (.int (12289 : Int32)), (.int (55295 : Int32)), (.int (63744 : Int32)), (.int (0 : Int32)), (.int (0 : Int32)), (.int (0 : Int32)), (.int (0 : Int32)), (.int (0 : Int32)), (.int (0 : Int32)), (.int (0 : Int32))])) : Addr × OObj) :: []) := V187.putA 0 rfl W188
  have N188 := Fr.snoc X188 N187 (V187.old 0 rfl)
  have Z188 : n0 ≤ h188.size := by rw [W188.size]; exact Z187
  refine OGets.step st188 ?_
  show OGets p e below _ (T188.setTop (mkF m 172 #[.val (.int p0), .val (.int p1), .unset, .unset, .unset] [(.ref b162)]))
  refine OGets.step (fun _ => XS.dup X188.here hx rfl (hb hby at_172) rfl rfl) ?_
  show OGets p e below _ (T188.setTop (mkF m 173 #[.val (.int p0), .val (.int p1), .unset, .unset, .unset] [(.ref b162), (.ref b162)]))
  refine OGets.step (fun _ => XS.bipush X188.here hx rfl (hb hby at_173)) ?_
  show OGets p e below _ (T188.setTop (mkF m 175 #[.val (.int p0), .val (.int p1), .unset, .unset, .unset] [(.int (26 : Int32)), (.ref b162), (.ref b162)]))
  refine OGets.step (fun _ => X188.ldcInt hx hown (mvT hZ (hw _ (List.mem_of_getElem? (i := 3) rfl))) (g := (mkF m 175 #[.val (.int p0), .val (.int p1), .unset, .unset, .unset] [(.int (26 : Int32)), (.ref b162), (.ref b162)])) rfl (hb hby at_175) _) ?_
  show OGets p e below _ (T188.setTop (mkF m 177 #[.val (.int p0), .val (.int p1), .unset, .unset, .unset] [(.int (64975 : Int32)), (.int (26 : Int32)), (.ref b162), (.ref b162)]))
  obtain ⟨cl189, Ar189, S189⟩ := V188.arr 0 rfl
  obtain ⟨T189, h189, X189, e189, W189', st189⟩ := stI X188 hx hZ e188 Ar189 (j := (26 : Int32)) (own_inb S189 26 (by decide) (by decide)) (g := (mkF m 177 #[.val (.int p0), .val (.int p1), .unset, .unset, .unset] [(.int (64975 : Int32)), (.int (26 : Int32)), (.ref b162), (.ref b162)])) rfl rfl (hb hby at_177)
  have W189 := own_wr (vs := []) 26 (by decide) W189'
  have V189 : OView Z n0 h189 (((b162, Sum.inr (.int, [(.int (58 : Int32)), (.int (65 : Int32)), (.int (90 : Int32)), (.int (95 : Int32)), (.int (97 : Int32)), (.int (122 : Int32)), (.int (128 : Int32)), (.int (192 : Int32)), (.int (214 : Int32)), (.int (216 : Int32)), (.int (246 : Int32)), (.int (248 : Int32)), (.int (767 : Int32)), (.int (880 : Int32)), (.int (893 : Int32)), (.int (895 : Int32)), (.int (8191 : Int32)), (.int (8204 : Int32)), (.int (8205 : Int32)), (.int (8304 : Int32)), (.int (8591 : Int32)), (.int (11264 : Int32)), (.int (12271 : Int32)), (.int (12289 : Int32)), (.int (55295 : Int32)), (.int (63744 : Int32)), (.int (64975 : Int32)), (.int (0 : Int32)), (.int (0 : Int32)), (.int (0 : Int32)), (.int (0 : Int32)), (.int (0 : Int32)), (.int (0 : Int32))])) : Addr × OObj) :: []) := V188.putA 0 rfl W189
  have N189 := Fr.snoc X189 N188 (V188.old 0 rfl)
  have Z189 : n0 ≤ h189.size := by rw [W189.size]; exact Z188
  refine OGets.step st189 ?_
  show OGets p e below _ (T189.setTop (mkF m 178 #[.val (.int p0), .val (.int p1), .unset, .unset, .unset] [(.ref b162)]))
  refine OGets.step (fun _ => XS.dup X189.here hx rfl (hb hby at_178) rfl rfl) ?_
  show OGets p e below _ (T189.setTop (mkF m 179 #[.val (.int p0), .val (.int p1), .unset, .unset, .unset] [(.ref b162), (.ref b162)]))
  refine OGets.step (fun _ => XS.bipush X189.here hx rfl (hb hby at_179)) ?_
  show OGets p e below _ (T189.setTop (mkF m 181 #[.val (.int p0), .val (.int p1), .unset, .unset, .unset] [(.int (27 : Int32)), (.ref b162), (.ref b162)]))
  refine OGets.step (fun _ => X189.ldcInt hx hown (mvT hZ (hw _ (List.mem_of_getElem? (i := 4) rfl))) (g := (mkF m 181 #[.val (.int p0), .val (.int p1), .unset, .unset, .unset] [(.int (27 : Int32)), (.ref b162), (.ref b162)])) rfl (hb hby at_181) _) ?_
  show OGets p e below _ (T189.setTop (mkF m 183 #[.val (.int p0), .val (.int p1), .unset, .unset, .unset] [(.int (65008 : Int32)), (.int (27 : Int32)), (.ref b162), (.ref b162)]))
  obtain ⟨cl190, Ar190, S190⟩ := V189.arr 0 rfl
  obtain ⟨T190, h190, X190, e190, W190', st190⟩ := stI X189 hx hZ e189 Ar190 (j := (27 : Int32)) (own_inb S190 27 (by decide) (by decide)) (g := (mkF m 183 #[.val (.int p0), .val (.int p1), .unset, .unset, .unset] [(.int (65008 : Int32)), (.int (27 : Int32)), (.ref b162), (.ref b162)])) rfl rfl (hb hby at_183)
  have W190 := own_wr (vs := []) 27 (by decide) W190'
  have V190 : OView Z n0 h190 (((b162, Sum.inr (.int, [(.int (58 : Int32)), (.int (65 : Int32)), (.int (90 : Int32)), (.int (95 : Int32)), (.int (97 : Int32)), (.int (122 : Int32)), (.int (128 : Int32)), (.int (192 : Int32)), (.int (214 : Int32)), (.int (216 : Int32)), (.int (246 : Int32)), (.int (248 : Int32)), (.int (767 : Int32)), (.int (880 : Int32)), (.int (893 : Int32)), (.int (895 : Int32)), (.int (8191 : Int32)), (.int (8204 : Int32)), (.int (8205 : Int32)), (.int (8304 : Int32)), (.int (8591 : Int32)), (.int (11264 : Int32)), (.int (12271 : Int32)), (.int (12289 : Int32)), (.int (55295 : Int32)), (.int (63744 : Int32)), (.int (64975 : Int32)), (.int (65008 : Int32)), (.int (0 : Int32)), (.int (0 : Int32)), (.int (0 : Int32)), (.int (0 : Int32)), (.int (0 : Int32))])) : Addr × OObj) :: []) := V189.putA 0 rfl W190
  have N190 := Fr.snoc X190 N189 (V189.old 0 rfl)
  have Z190 : n0 ≤ h190.size := by rw [W190.size]; exact Z189
  refine OGets.step st190 ?_
  show OGets p e below _ (T190.setTop (mkF m 184 #[.val (.int p0), .val (.int p1), .unset, .unset, .unset] [(.ref b162)]))
  refine OGets.step (fun _ => XS.dup X190.here hx rfl (hb hby at_184) rfl rfl) ?_
  show OGets p e below _ (T190.setTop (mkF m 185 #[.val (.int p0), .val (.int p1), .unset, .unset, .unset] [(.ref b162), (.ref b162)]))
  refine OGets.step (fun _ => XS.bipush X190.here hx rfl (hb hby at_185)) ?_
  show OGets p e below _ (T190.setTop (mkF m 187 #[.val (.int p0), .val (.int p1), .unset, .unset, .unset] [(.int (28 : Int32)), (.ref b162), (.ref b162)]))
  refine OGets.step (fun _ => X190.ldcInt hx hown (mvT hZ (hw _ (List.mem_of_getElem? (i := 5) rfl))) (g := (mkF m 187 #[.val (.int p0), .val (.int p1), .unset, .unset, .unset] [(.int (28 : Int32)), (.ref b162), (.ref b162)])) rfl (hb hby at_187) _) ?_
  show OGets p e below _ (T190.setTop (mkF m 189 #[.val (.int p0), .val (.int p1), .unset, .unset, .unset] [(.int (65533 : Int32)), (.int (28 : Int32)), (.ref b162), (.ref b162)]))
  obtain ⟨cl191, Ar191, S191⟩ := V190.arr 0 rfl
  obtain ⟨T191, h191, X191, e191, W191', st191⟩ := stI X190 hx hZ e190 Ar191 (j := (28 : Int32)) (own_inb S191 28 (by decide) (by decide)) (g := (mkF m 189 #[.val (.int p0), .val (.int p1), .unset, .unset, .unset] [(.int (65533 : Int32)), (.int (28 : Int32)), (.ref b162), (.ref b162)])) rfl rfl (hb hby at_189)
  have W191 := own_wr (vs := []) 28 (by decide) W191'
  have V191 : OView Z n0 h191 (((b162, Sum.inr (.int, [(.int (58 : Int32)), (.int (65 : Int32)), (.int (90 : Int32)), (.int (95 : Int32)), (.int (97 : Int32)), (.int (122 : Int32)), (.int (128 : Int32)), (.int (192 : Int32)), (.int (214 : Int32)), (.int (216 : Int32)), (.int (246 : Int32)), (.int (248 : Int32)), (.int (767 : Int32)), (.int (880 : Int32)), (.int (893 : Int32)), (.int (895 : Int32)), (.int (8191 : Int32)), (.int (8204 : Int32)), (.int (8205 : Int32)), (.int (8304 : Int32)), (.int (8591 : Int32)), (.int (11264 : Int32)), (.int (12271 : Int32)), (.int (12289 : Int32)), (.int (55295 : Int32)), (.int (63744 : Int32)), (.int (64975 : Int32)), (.int (65008 : Int32)), (.int (65533 : Int32)), (.int (0 : Int32)), (.int (0 : Int32)), (.int (0 : Int32)), (.int (0 : Int32))])) : Addr × OObj) :: []) := V190.putA 0 rfl W191
  have N191 := Fr.snoc X191 N190 (V190.old 0 rfl)
  have Z191 : n0 ≤ h191.size := by rw [W191.size]; exact Z190
  refine OGets.step st191 ?_
  show OGets p e below _ (T191.setTop (mkF m 190 #[.val (.int p0), .val (.int p1), .unset, .unset, .unset] [(.ref b162)]))
  refine OGets.step (fun _ => XS.dup X191.here hx rfl (hb hby at_190) rfl rfl) ?_
  show OGets p e below _ (T191.setTop (mkF m 191 #[.val (.int p0), .val (.int p1), .unset, .unset, .unset] [(.ref b162), (.ref b162)]))
  refine OGets.step (fun _ => XS.bipush X191.here hx rfl (hb hby at_191)) ?_
  show OGets p e below _ (T191.setTop (mkF m 193 #[.val (.int p0), .val (.int p1), .unset, .unset, .unset] [(.int (29 : Int32)), (.ref b162), (.ref b162)]))
  refine OGets.step (fun _ => X191.ldcInt hx hown (mvT hZ (hw _ (List.mem_of_getElem? (i := 6) rfl))) (g := (mkF m 193 #[.val (.int p0), .val (.int p1), .unset, .unset, .unset] [(.int (29 : Int32)), (.ref b162), (.ref b162)])) rfl (hb hby at_193) _) ?_
  show OGets p e below _ (T191.setTop (mkF m 195 #[.val (.int p0), .val (.int p1), .unset, .unset, .unset] [(.int (65536 : Int32)), (.int (29 : Int32)), (.ref b162), (.ref b162)]))
  obtain ⟨cl192, Ar192, S192⟩ := V191.arr 0 rfl
  obtain ⟨T192, h192, X192, e192, W192', st192⟩ := stI X191 hx hZ e191 Ar192 (j := (29 : Int32)) (own_inb S192 29 (by decide) (by decide)) (g := (mkF m 195 #[.val (.int p0), .val (.int p1), .unset, .unset, .unset] [(.int (65536 : Int32)), (.int (29 : Int32)), (.ref b162), (.ref b162)])) rfl rfl (hb hby at_195)
  have W192 := own_wr (vs := []) 29 (by decide) W192'
  have V192 : OView Z n0 h192 (((b162, Sum.inr (.int, [(.int (58 : Int32)), (.int (65 : Int32)), (.int (90 : Int32)), (.int (95 : Int32)), (.int (97 : Int32)), (.int (122 : Int32)), (.int (128 : Int32)), (.int (192 : Int32)), (.int (214 : Int32)), (.int (216 : Int32)), (.int (246 : Int32)), (.int (248 : Int32)), (.int (767 : Int32)), (.int (880 : Int32)), (.int (893 : Int32)), (.int (895 : Int32)), (.int (8191 : Int32)), (.int (8204 : Int32)), (.int (8205 : Int32)), (.int (8304 : Int32)), (.int (8591 : Int32)), (.int (11264 : Int32)), (.int (12271 : Int32)), (.int (12289 : Int32)), (.int (55295 : Int32)), (.int (63744 : Int32)), (.int (64975 : Int32)), (.int (65008 : Int32)), (.int (65533 : Int32)), (.int (65536 : Int32)), (.int (0 : Int32)), (.int (0 : Int32)), (.int (0 : Int32))])) : Addr × OObj) :: []) := V191.putA 0 rfl W192
  have N192 := Fr.snoc X192 N191 (V191.old 0 rfl)
  have Z192 : n0 ≤ h192.size := by rw [W192.size]; exact Z191
  refine OGets.step st192 ?_
  show OGets p e below _ (T192.setTop (mkF m 196 #[.val (.int p0), .val (.int p1), .unset, .unset, .unset] [(.ref b162)]))
  refine OGets.step (fun _ => XS.dup X192.here hx rfl (hb hby at_196) rfl rfl) ?_
  show OGets p e below _ (T192.setTop (mkF m 197 #[.val (.int p0), .val (.int p1), .unset, .unset, .unset] [(.ref b162), (.ref b162)]))
  refine OGets.step (fun _ => XS.bipush X192.here hx rfl (hb hby at_197)) ?_
  show OGets p e below _ (T192.setTop (mkF m 199 #[.val (.int p0), .val (.int p1), .unset, .unset, .unset] [(.int (30 : Int32)), (.ref b162), (.ref b162)]))
  refine OGets.step (fun _ => X192.ldcInt hx hown (mvT hZ (hw _ (List.mem_of_getElem? (i := 7) rfl))) (g := (mkF m 199 #[.val (.int p0), .val (.int p1), .unset, .unset, .unset] [(.int (30 : Int32)), (.ref b162), (.ref b162)])) rfl (hb hby at_199) _) ?_
  show OGets p e below _ (T192.setTop (mkF m 201 #[.val (.int p0), .val (.int p1), .unset, .unset, .unset] [(.int (983039 : Int32)), (.int (30 : Int32)), (.ref b162), (.ref b162)]))
  obtain ⟨cl193, Ar193, S193⟩ := V192.arr 0 rfl
  obtain ⟨T193, h193, X193, e193, W193', st193⟩ := stI X192 hx hZ e192 Ar193 (j := (30 : Int32)) (own_inb S193 30 (by decide) (by decide)) (g := (mkF m 201 #[.val (.int p0), .val (.int p1), .unset, .unset, .unset] [(.int (983039 : Int32)), (.int (30 : Int32)), (.ref b162), (.ref b162)])) rfl rfl (hb hby at_201)
  have W193 := own_wr (vs := []) 30 (by decide) W193'
  have V193 : OView Z n0 h193 (((b162, Sum.inr (.int, [(.int (58 : Int32)), (.int (65 : Int32)), (.int (90 : Int32)), (.int (95 : Int32)), (.int (97 : Int32)), (.int (122 : Int32)), (.int (128 : Int32)), (.int (192 : Int32)), (.int (214 : Int32)), (.int (216 : Int32)), (.int (246 : Int32)), (.int (248 : Int32)), (.int (767 : Int32)), (.int (880 : Int32)), (.int (893 : Int32)), (.int (895 : Int32)), (.int (8191 : Int32)), (.int (8204 : Int32)), (.int (8205 : Int32)), (.int (8304 : Int32)), (.int (8591 : Int32)), (.int (11264 : Int32)), (.int (12271 : Int32)), (.int (12289 : Int32)), (.int (55295 : Int32)), (.int (63744 : Int32)), (.int (64975 : Int32)), (.int (65008 : Int32)), (.int (65533 : Int32)), (.int (65536 : Int32)), (.int (983039 : Int32)), (.int (0 : Int32)), (.int (0 : Int32))])) : Addr × OObj) :: []) := V192.putA 0 rfl W193
  have N193 := Fr.snoc X193 N192 (V192.old 0 rfl)
  have Z193 : n0 ≤ h193.size := by rw [W193.size]; exact Z192
  refine OGets.step st193 ?_
  show OGets p e below _ (T193.setTop (mkF m 202 #[.val (.int p0), .val (.int p1), .unset, .unset, .unset] [(.ref b162)]))
  refine OGets.step (fun _ => XS.dup X193.here hx rfl (hb hby at_202) rfl rfl) ?_
  show OGets p e below _ (T193.setTop (mkF m 203 #[.val (.int p0), .val (.int p1), .unset, .unset, .unset] [(.ref b162), (.ref b162)]))
  refine OGets.step (fun _ => XS.bipush X193.here hx rfl (hb hby at_203)) ?_
  show OGets p e below _ (T193.setTop (mkF m 205 #[.val (.int p0), .val (.int p1), .unset, .unset, .unset] [(.int (31 : Int32)), (.ref b162), (.ref b162)]))
  refine OGets.step (fun _ => X193.ldcInt hx hown (mvT hZ (hw _ (List.mem_of_getElem? (i := 8) rfl))) (g := (mkF m 205 #[.val (.int p0), .val (.int p1), .unset, .unset, .unset] [(.int (31 : Int32)), (.ref b162), (.ref b162)])) rfl (hb hby at_205) _) ?_
  show OGets p e below _ (T193.setTop (mkF m 207 #[.val (.int p0), .val (.int p1), .unset, .unset, .unset] [(.int (1114111 : Int32)), (.int (31 : Int32)), (.ref b162), (.ref b162)]))
  obtain ⟨cl194, Ar194, S194⟩ := V193.arr 0 rfl
  obtain ⟨T194, h194, X194, e194, W194', st194⟩ := stI X193 hx hZ e193 Ar194 (j := (31 : Int32)) (own_inb S194 31 (by decide) (by decide)) (g := (mkF m 207 #[.val (.int p0), .val (.int p1), .unset, .unset, .unset] [(.int (1114111 : Int32)), (.int (31 : Int32)), (.ref b162), (.ref b162)])) rfl rfl (hb hby at_207)
  have W194 := own_wr (vs := []) 31 (by decide) W194'
  have V194 : OView Z n0 h194 (((b162, Sum.inr (.int, [(.int (58 : Int32)), (.int (65 : Int32)), (.int (90 : Int32)), (.int (95 : Int32)), (.int (97 : Int32)), (.int (122 : Int32)), (.int (128 : Int32)), (.int (192 : Int32)), (.int (214 : Int32)), (.int (216 : Int32)), (.int (246 : Int32)), (.int (248 : Int32)), (.int (767 : Int32)), (.int (880 : Int32)), (.int (893 : Int32)), (.int (895 : Int32)), (.int (8191 : Int32)), (.int (8204 : Int32)), (.int (8205 : Int32)), (.int (8304 : Int32)), (.int (8591 : Int32)), (.int (11264 : Int32)), (.int (12271 : Int32)), (.int (12289 : Int32)), (.int (55295 : Int32)), (.int (63744 : Int32)), (.int (64975 : Int32)), (.int (65008 : Int32)), (.int (65533 : Int32)), (.int (65536 : Int32)), (.int (983039 : Int32)), (.int (1114111 : Int32)), (.int (0 : Int32))])) : Addr × OObj) :: []) := V193.putA 0 rfl W194
  have N194 := Fr.snoc X194 N193 (V193.old 0 rfl)
  have Z194 : n0 ≤ h194.size := by rw [W194.size]; exact Z193
  refine OGets.step st194 ?_
  show OGets p e below _ (T194.setTop (mkF m 208 #[.val (.int p0), .val (.int p1), .unset, .unset, .unset] [(.ref b162)]))
  refine OGets.step (fun _ => XS.dup X194.here hx rfl (hb hby at_208) rfl rfl) ?_
  show OGets p e below _ (T194.setTop (mkF m 209 #[.val (.int p0), .val (.int p1), .unset, .unset, .unset] [(.ref b162), (.ref b162)]))
  refine OGets.step (fun _ => XS.bipush X194.here hx rfl (hb hby at_209)) ?_
  show OGets p e below _ (T194.setTop (mkF m 211 #[.val (.int p0), .val (.int p1), .unset, .unset, .unset] [(.int (32 : Int32)), (.ref b162), (.ref b162)]))
  refine OGets.step (fun _ => XS.iconst X194.here hx rfl (hb hby at_211)) ?_
  show OGets p e below _ (T194.setTop (mkF m 212 #[.val (.int p0), .val (.int p1), .unset, .unset, .unset] [(.int (0 : Int32)), (.int (32 : Int32)), (.ref b162), (.ref b162)]))
  obtain ⟨cl195, Ar195, S195⟩ := V194.arr 0 rfl
  obtain ⟨T195, h195, X195, e195, W195', st195⟩ := stI X194 hx hZ e194 Ar195 (j := (32 : Int32)) (own_inb S195 32 (by decide) (by decide)) (g := (mkF m 212 #[.val (.int p0), .val (.int p1), .unset, .unset, .unset] [(.int (0 : Int32)), (.int (32 : Int32)), (.ref b162), (.ref b162)])) rfl rfl (hb hby at_212)
  have W195 := own_wr (vs := []) 32 (by decide) W195'
  have V195 : OView Z n0 h195 (((b162, Sum.inr (.int, [(.int (58 : Int32)), (.int (65 : Int32)), (.int (90 : Int32)), (.int (95 : Int32)), (.int (97 : Int32)), (.int (122 : Int32)), (.int (128 : Int32)), (.int (192 : Int32)), (.int (214 : Int32)), (.int (216 : Int32)), (.int (246 : Int32)), (.int (248 : Int32)), (.int (767 : Int32)), (.int (880 : Int32)), (.int (893 : Int32)), (.int (895 : Int32)), (.int (8191 : Int32)), (.int (8204 : Int32)), (.int (8205 : Int32)), (.int (8304 : Int32)), (.int (8591 : Int32)), (.int (11264 : Int32)), (.int (12271 : Int32)), (.int (12289 : Int32)), (.int (55295 : Int32)), (.int (63744 : Int32)), (.int (64975 : Int32)), (.int (65008 : Int32)), (.int (65533 : Int32)), (.int (65536 : Int32)), (.int (983039 : Int32)), (.int (1114111 : Int32)), (.int (0 : Int32))])) : Addr × OObj) :: []) := V194.putA 0 rfl W195
  have N195 := Fr.snoc X195 N194 (V194.old 0 rfl)
  have Z195 : n0 ≤ h195.size := by rw [W195.size]; exact Z194
  refine OGets.step st195 ?_
  show OGets p e below _ (T195.setTop (mkF m 213 #[.val (.int p0), .val (.int p1), .unset, .unset, .unset] [(.ref b162)]))
  refine OGets.step (fun _ => XS.astoreN X195.here hx rfl (hb hby at_213) rfl rfl (l' := #[.val (.int p0), .val (.int p1), .val (.ref b162), .unset, .unset]) rfl) ?_
  show OGets p e below _ (T195.setTop (mkF m 214 #[.val (.int p0), .val (.int p1), .val (.ref b162), .unset, .unset] []))
  refine OGets.step (fun _ => XS.iloadN X195.here hx rfl (hb hby at_214) rfl) ?_
  show OGets p e below _ (T195.setTop (mkF m 215 #[.val (.int p0), .val (.int p1), .val (.ref b162), .unset, .unset] [(.int p1)]))
  refine OGets.step (fun _ => XS.iconst X195.here hx rfl (hb hby at_215)) ?_
  show OGets p e below _ (T195.setTop (mkF m 216 #[.val (.int p0), .val (.int p1), .val (.ref b162), .unset, .unset] [(.int (1 : Int32)), (.int p1)]))
  refine OGets.step (fun _ => XS.iand X195.here hx rfl (hb hby at_216) rfl) ?_
  show OGets p e below _ (T195.setTop (mkF m 217 #[.val (.int p0), .val (.int p1), .val (.ref b162), .unset, .unset] [(.int (p1 &&& (1 : Int32)))]))
  by_cases hc217_196 : (p1 &&& (1 : Int32)) = (0 : Int32)
  · refine OGets.step (fun _ => XS.ifNo X195.here hx rfl (hb hby at_217) rfl ((if0 _ _).trans (teq hc217_196).2)) ?_
    show OGets p e below _ (T195.setTop (mkF m 220 #[.val (.int p0), .val (.int p1), .val (.ref b162), .unset, .unset] []))
    refine OGets.step (fun _ => XS.iloadN X195.here hx rfl (hb hby at_220) rfl) ?_
    show OGets p e below _ (T195.setTop (mkF m 221 #[.val (.int p0), .val (.int p1), .val (.ref b162), .unset, .unset] [(.int p0)]))
    refine OGets.step (fun _ => XS.istoreN X195.here hx rfl (hb hby at_221) rfl (l' := #[.val (.int p0), .val (.int p1), .val (.ref b162), .val (.int p0), .unset]) rfl) ?_
    show OGets p e below _ (T195.setTop (mkF m 222 #[.val (.int p0), .val (.int p1), .val (.ref b162), .val (.int p0), .unset] []))
    refine OGets.step (fun _ => XS.goto X195.here hx rfl (pc0 := 222) (pc' := 238) rfl (hb hby at_222) (by decide) (by decide)) ?_
    show OGets p e below _ (T195.setTop (mkF m 238 #[.val (.int p0), .val (.int p1), .val (.ref b162), .val (.int p0), .unset] []))
    refine OGets.step (fun _ => XS.iloadN X195.here hx rfl (hb hby at_238) rfl) ?_
    show OGets p e below _ (T195.setTop (mkF m 239 #[.val (.int p0), .val (.int p1), .val (.ref b162), .val (.int p0), .unset] [(.int p0)]))
    obtain ⟨_, _, ⟨T197, L197, k197, n197⟩, -, X197, ⟨Lc197, hQ197, l197, y197, z197⟩, st197⟩ := Jvm.LawKit.callS X195 hx (y := (⟨"com/example/guarded_expansion/guardedexpansion/XmlCharsIsNameStartCharPinLaw", "inGap", "(I)Z"⟩ : MethodName)) hown (mvT hZ (hw _ (List.mem_of_getElem? (i := 9) rfl))) (mvT hZ (hw _ (List.mem_of_getElem? (i := 10) rfl))) (mvT hZ (hw _ (List.mem_of_getElem? (i := 11) rfl))) (mvT hZ (hw _ (List.mem_of_getElem? (i := 12) rfl))) (by decide) (backOf (W := 0) (rm_inGap l Z a0 hw [] p0 h195 n0  Z195 ) hZ (hw _ (List.mem_of_getElem? (i := 12) rfl)) (hw _ (List.mem_of_getElem? (i := 11) rfl)) (by decide) (by decide)) (g := (mkF m 239 #[.val (.int p0), .val (.int p1), .val (.ref b162), .val (.int p0), .unset] [(.int p0)])) rfl (by rw [hml]; rfl) (argsL := [(.int p0)]) (rest := []) (lenOf pd_3 rfl) rfl (by show 2 * 0 + _ ≤ _; exact Nat.le_of_eq rfl) (hb hby at_239) (fun _ _ => ⟨rfl, e195, Nat.le_of_ble_eq_true rfl, Nat.le_of_ble_eq_true rfl⟩)
    dsimp only [Pt.U, Pt.locs, Pt.cells, Pt.slots] at X197 l197 y197 z197 st197 hQ197
    rw [l197, y197, z197] at X197
    obtain ⟨rfl, rfl, e197⟩ := hQ197
    have N197 := Fr.app N195 (Fr.nil n0)
    refine OGets.step st197 ?_
    show OGets p e below _ (T197.setTop (mkF m 242 #[.val (.int p0), .val (.int p1), .val (.ref b162), .val (.int p0), .unset] [(.int (f_inGap p0))]))
    by_cases hc242_198 : (f_inGap p0) = (0 : Int32)
    · refine OGets.step (fun _ => XS.ifNo X197.here hx rfl (hb hby at_242) rfl ((if0 _ _).trans (teq hc242_198).2)) ?_
      show OGets p e below _ (T197.setTop (mkF m 245 #[.val (.int p0), .val (.int p1), .val (.ref b162), .val (.int p0), .unset] []))
      refine OGets.step (fun _ => XS.iconst X197.here hx rfl (hb hby at_245)) ?_
      show OGets p e below _ (T197.setTop (mkF m 246 #[.val (.int p0), .val (.int p1), .val (.ref b162), .val (.int p0), .unset] [(.int (1 : Int32))]))
      refine OGets.step (fun _ => XS.goto X197.here hx rfl (pc0 := 246) (pc' := 250) rfl (hb hby at_246) (by decide) (by decide)) ?_
      show OGets p e below _ (T197.setTop (mkF m 250 #[.val (.int p0), .val (.int p1), .val (.ref b162), .val (.int p0), .unset] [(.int (1 : Int32))]))
      refine OGets.step (fun _ => XS.istore X197.here hx rfl (hb hby at_250) rfl (l' := #[.val (.int p0), .val (.int p1), .val (.ref b162), .val (.int p0), .val (.int (1 : Int32))]) rfl) ?_
      show OGets p e below _ (T197.setTop (mkF m 252 #[.val (.int p0), .val (.int p1), .val (.ref b162), .val (.int p0), .val (.int (1 : Int32))] []))
      refine OGets.step (fun _ => XS.iloadN X197.here hx rfl (hb hby at_252) rfl) ?_
      show OGets p e below _ (T197.setTop (mkF m 253 #[.val (.int p0), .val (.int p1), .val (.ref b162), .val (.int p0), .val (.int (1 : Int32))] [(.int p0)]))
      obtain ⟨_, _, ⟨T199, L199, k199, n199⟩, -, X199, ⟨Lc199, hQ199, l199, y199, z199⟩, st199⟩ := Jvm.LawKit.callS X197 hx (y := (⟨"com/example/guarded_expansion/guardedexpansion/XmlChars", "isNameStartChar", "(I)Z"⟩ : MethodName)) hown (mvT hZ (hw _ (List.mem_of_getElem? (i := 22) rfl))) (mvT hZ (hw _ (List.mem_of_getElem? (i := 23) rfl))) (mvT hZ (hw _ (List.mem_of_getElem? (i := 24) rfl))) (mvT hZ (hw _ (List.mem_of_getElem? (i := 25) rfl))) (by decide) (backOf (W := 0) (rm_isN l Z a0 hw [] p0 h195 n0  Z195 ) hZ (hw _ (List.mem_of_getElem? (i := 25) rfl)) (hw _ (List.mem_of_getElem? (i := 24) rfl)) (by decide) (by decide)) (g := (mkF m 253 #[.val (.int p0), .val (.int p1), .val (.ref b162), .val (.int p0), .val (.int (1 : Int32))] [(.int p0)])) rfl (by rw [hml]; rfl) (argsL := [(.int p0)]) (rest := []) (lenOf pd_3 rfl) rfl (by show 2 * 0 + _ ≤ _; exact Nat.le_of_eq rfl) (hb hby at_253) (fun _ _ => ⟨rfl, e197, Nat.le_of_ble_eq_true rfl, Nat.le_of_ble_eq_true rfl⟩)
      dsimp only [Pt.U, Pt.locs, Pt.cells, Pt.slots] at X199 l199 y199 z199 st199 hQ199
      rw [l199, y199, z199] at X199
      obtain ⟨rfl, rfl, e199⟩ := hQ199
      have N199 := Fr.app N197 (Fr.nil n0)
      refine OGets.step st199 ?_
      show OGets p e below _ (T199.setTop (mkF m 256 #[.val (.int p0), .val (.int p1), .val (.ref b162), .val (.int p0), .val (.int (1 : Int32))] [(.int (f_isN p0))]))
      refine OGets.step (fun _ => XS.iload X199.here hx rfl (hb hby at_256) rfl) ?_
      show OGets p e below _ (T199.setTop (mkF m 258 #[.val (.int p0), .val (.int p1), .val (.ref b162), .val (.int p0), .val (.int (1 : Int32))] [(.int (1 : Int32)), (.int (f_isN p0))]))
      refine OGets.step (fun _ => XS.icmpNo X199.here hx rfl (hb hby at_258) rfl (teq (own_yes _ hc242_198 : (f_isN p0) = (1 : Int32))).2) ?_
      show OGets p e below _ (T199.setTop (mkF m 261 #[.val (.int p0), .val (.int p1), .val (.ref b162), .val (.int p0), .val (.int (1 : Int32))] []))
      refine OGets.step (fun _ => XS.iconst X199.here hx rfl (hb hby at_261)) ?_
      show OGets p e below _ (T199.setTop (mkF m 262 #[.val (.int p0), .val (.int p1), .val (.ref b162), .val (.int p0), .val (.int (1 : Int32))] [(.int (1 : Int32))]))
      refine OGets.step (fun _ => XS.goto X199.here hx rfl (pc0 := 262) (pc' := 266) rfl (hb hby at_262) (by decide) (by decide)) ?_
      show OGets p e below _ (T199.setTop (mkF m 266 #[.val (.int p0), .val (.int p1), .val (.ref b162), .val (.int p0), .val (.int (1 : Int32))] [(.int (1 : Int32))]))
      refine OGets.retN X199 hx hlk (t := .boolean) Bd.returns (by simp) (hb hby at_266) (Nat.le_of_ble_eq_true rfl) (Nat.le_of_ble_eq_true rfl) ?_
      exact ⟨rfl, N199⟩
    · refine OGets.step (fun _ => XS.ifYes X197.here hx rfl (pc0 := 242) (pc' := 249) rfl (hb hby at_242) rfl ((if0 _ _).trans (feq hc242_198).2) (by decide) (by decide)) ?_
      show OGets p e below _ (T197.setTop (mkF m 249 #[.val (.int p0), .val (.int p1), .val (.ref b162), .val (.int p0), .unset] []))
      refine OGets.step (fun _ => XS.iconst X197.here hx rfl (hb hby at_249)) ?_
      show OGets p e below _ (T197.setTop (mkF m 250 #[.val (.int p0), .val (.int p1), .val (.ref b162), .val (.int p0), .unset] [(.int (0 : Int32))]))
      refine OGets.step (fun _ => XS.istore X197.here hx rfl (hb hby at_250) rfl (l' := #[.val (.int p0), .val (.int p1), .val (.ref b162), .val (.int p0), .val (.int (0 : Int32))]) rfl) ?_
      show OGets p e below _ (T197.setTop (mkF m 252 #[.val (.int p0), .val (.int p1), .val (.ref b162), .val (.int p0), .val (.int (0 : Int32))] []))
      refine OGets.step (fun _ => XS.iloadN X197.here hx rfl (hb hby at_252) rfl) ?_
      show OGets p e below _ (T197.setTop (mkF m 253 #[.val (.int p0), .val (.int p1), .val (.ref b162), .val (.int p0), .val (.int (0 : Int32))] [(.int p0)]))
      obtain ⟨_, _, ⟨T201, L201, k201, n201⟩, -, X201, ⟨Lc201, hQ201, l201, y201, z201⟩, st201⟩ := Jvm.LawKit.callS X197 hx (y := (⟨"com/example/guarded_expansion/guardedexpansion/XmlChars", "isNameStartChar", "(I)Z"⟩ : MethodName)) hown (mvT hZ (hw _ (List.mem_of_getElem? (i := 22) rfl))) (mvT hZ (hw _ (List.mem_of_getElem? (i := 23) rfl))) (mvT hZ (hw _ (List.mem_of_getElem? (i := 24) rfl))) (mvT hZ (hw _ (List.mem_of_getElem? (i := 25) rfl))) (by decide) (backOf (W := 0) (rm_isN l Z a0 hw [] p0 h195 n0  Z195 ) hZ (hw _ (List.mem_of_getElem? (i := 25) rfl)) (hw _ (List.mem_of_getElem? (i := 24) rfl)) (by decide) (by decide)) (g := (mkF m 253 #[.val (.int p0), .val (.int p1), .val (.ref b162), .val (.int p0), .val (.int (0 : Int32))] [(.int p0)])) rfl (by rw [hml]; rfl) (argsL := [(.int p0)]) (rest := []) (lenOf pd_3 rfl) rfl (by show 2 * 0 + _ ≤ _; exact Nat.le_of_eq rfl) (hb hby at_253) (fun _ _ => ⟨rfl, e197, Nat.le_of_ble_eq_true rfl, Nat.le_of_ble_eq_true rfl⟩)
      dsimp only [Pt.U, Pt.locs, Pt.cells, Pt.slots] at X201 l201 y201 z201 st201 hQ201
      rw [l201, y201, z201] at X201
      obtain ⟨rfl, rfl, e201⟩ := hQ201
      have N201 := Fr.app N197 (Fr.nil n0)
      refine OGets.step st201 ?_
      show OGets p e below _ (T201.setTop (mkF m 256 #[.val (.int p0), .val (.int p1), .val (.ref b162), .val (.int p0), .val (.int (0 : Int32))] [(.int (f_isN p0))]))
      refine OGets.step (fun _ => XS.iload X201.here hx rfl (hb hby at_256) rfl) ?_
      show OGets p e below _ (T201.setTop (mkF m 258 #[.val (.int p0), .val (.int p1), .val (.ref b162), .val (.int p0), .val (.int (0 : Int32))] [(.int (0 : Int32)), (.int (f_isN p0))]))
      refine OGets.step (fun _ => XS.icmpNo X201.here hx rfl (hb hby at_258) rfl (teq (own_no _ hc242_198 : (f_isN p0) = (0 : Int32))).2) ?_
      show OGets p e below _ (T201.setTop (mkF m 261 #[.val (.int p0), .val (.int p1), .val (.ref b162), .val (.int p0), .val (.int (0 : Int32))] []))
      refine OGets.step (fun _ => XS.iconst X201.here hx rfl (hb hby at_261)) ?_
      show OGets p e below _ (T201.setTop (mkF m 262 #[.val (.int p0), .val (.int p1), .val (.ref b162), .val (.int p0), .val (.int (0 : Int32))] [(.int (1 : Int32))]))
      refine OGets.step (fun _ => XS.goto X201.here hx rfl (pc0 := 262) (pc' := 266) rfl (hb hby at_262) (by decide) (by decide)) ?_
      show OGets p e below _ (T201.setTop (mkF m 266 #[.val (.int p0), .val (.int p1), .val (.ref b162), .val (.int p0), .val (.int (0 : Int32))] [(.int (1 : Int32))]))
      refine OGets.retN X201 hx hlk (t := .boolean) Bd.returns (by simp) (hb hby at_266) (Nat.le_of_ble_eq_true rfl) (Nat.le_of_ble_eq_true rfl) ?_
      exact ⟨rfl, N201⟩
  · refine OGets.step (fun _ => XS.ifYes X195.here hx rfl (pc0 := 217) (pc' := 225) rfl (hb hby at_217) rfl ((if0 _ _).trans (feq hc217_196).2) (by decide) (by decide)) ?_
    show OGets p e below _ (T195.setTop (mkF m 225 #[.val (.int p0), .val (.int p1), .val (.ref b162), .unset, .unset] []))
    refine OGets.step (fun _ => XS.aloadN X195.here hx rfl (hb hby at_225) rfl rfl) ?_
    show OGets p e below _ (T195.setTop (mkF m 226 #[.val (.int p0), .val (.int p1), .val (.ref b162), .unset, .unset] [(.ref b162)]))
    refine OGets.step (fun _ => XS.iloadN X195.here hx rfl (hb hby at_226) rfl) ?_
    show OGets p e below _ (T195.setTop (mkF m 227 #[.val (.int p0), .val (.int p1), .val (.ref b162), .unset, .unset] [(.int p1), (.ref b162)]))
    refine OGets.step (fun _ => XS.iconst X195.here hx rfl (hb hby at_227)) ?_
    show OGets p e below _ (T195.setTop (mkF m 228 #[.val (.int p0), .val (.int p1), .val (.ref b162), .unset, .unset] [(.int (1 : Int32)), (.int p1), (.ref b162)]))
    refine OGets.step (fun _ => XS.iushr X195.here hx rfl (hb hby at_228) rfl) ?_
    show OGets p e below _ (T195.setTop (mkF m 229 #[.val (.int p0), .val (.int p1), .val (.ref b162), .unset, .unset] [(.int ((p1.toUInt32 >>> ((1 : Int32) &&& 31).toUInt32).toInt32)), (.ref b162)]))
    refine OGets.step (fun _ => XS.aloadN X195.here hx rfl (hb hby at_229) rfl rfl) ?_
    show OGets p e below _ (T195.setTop (mkF m 230 #[.val (.int p0), .val (.int p1), .val (.ref b162), .unset, .unset] [(.ref b162), (.int ((p1.toUInt32 >>> ((1 : Int32) &&& 31).toUInt32).toInt32)), (.ref b162)]))
    obtain ⟨cl203, Ar203, S203⟩ := V195.arr 0 rfl
    have ln203 : cl203.slots.size.toInt32 = (33 : Int32) := by rw [own_len S203]; rfl
    refine OGets.step (U' := T195.setTop (mkF m 231 #[.val (.int p0), .val (.int p1), .val (.ref b162), .unset, .unset] [(.int (33 : Int32)), (.int ((p1.toUInt32 >>> ((1 : Int32) &&& 31).toUInt32).toInt32)), (.ref b162)])) (fun t kt => ?_) ?_
    · refine X195.arraylength hx (by rw [e195]; exact Ar203.1) (State.isArrayOf_alike hZ.alike Ar203.2.1) (g := (mkF m 230 #[.val (.int p0), .val (.int p1), .val (.ref b162), .unset, .unset] [(.ref b162), (.int ((p1.toUInt32 >>> ((1 : Int32) &&& 31).toUInt32).toInt32)), (.ref b162)])) rfl rfl (hb hby at_230) _ ?_
      rw [ln203]; exact kt
    show OGets p e below _ (T195.setTop (mkF m 231 #[.val (.int p0), .val (.int p1), .val (.ref b162), .unset, .unset] [(.int (33 : Int32)), (.int ((p1.toUInt32 >>> ((1 : Int32) &&& 31).toUInt32).toInt32)), (.ref b162)]))
    refine OGets.step (fun _ => iremM (g := (mkF m 231 #[.val (.int p0), .val (.int p1), .val (.ref b162), .unset, .unset] [(.int (33 : Int32)), (.int ((p1.toUInt32 >>> ((1 : Int32) &&& 31).toUInt32).toInt32)), (.ref b162)])) X195 hx rfl (hb hby at_231) rfl (by decide)) ?_
    show OGets p e below _ (T195.setTop (mkF m 232 #[.val (.int p0), .val (.int p1), .val (.ref b162), .unset, .unset] [(.int (((p1.toUInt32 >>> ((1 : Int32) &&& 31).toUInt32).toInt32) % (33 : Int32))), (.ref b162)]))
    obtain ⟨cl, Ar, Sx⟩ := V195.arr 0 rfl
    obtain ⟨k, hk, hlt⟩ := own_m33 p1
    obtain ⟨w, hwk⟩ := own_ints [(58 : Int32), (65 : Int32), (90 : Int32), (95 : Int32), (97 : Int32), (122 : Int32), (128 : Int32), (192 : Int32), (214 : Int32), (216 : Int32), (246 : Int32), (248 : Int32), (767 : Int32), (880 : Int32), (893 : Int32), (895 : Int32), (8191 : Int32), (8204 : Int32), (8205 : Int32), (8304 : Int32), (8591 : Int32), (11264 : Int32), (12271 : Int32), (12289 : Int32), (55295 : Int32), (63744 : Int32), (64975 : Int32), (65008 : Int32), (65533 : Int32), (65536 : Int32), (983039 : Int32), (1114111 : Int32), (0 : Int32)] k hlt
    refine OGets.step (fun _ => X195.iaload hx (j := (((p1.toUInt32 >>> ((1 : Int32) &&& 31).toUInt32).toInt32) % (33 : Int32))) (v := (.int w)) (by rw [e195]; exact Ar.1) (State.isArrayOf_alike hZ.alike Ar.2.1) Ar.2.2 (own_inb Sx k hk hlt) (own_get Sx k hk hwk) (g := (mkF m 232 #[.val (.int p0), .val (.int p1), .val (.ref b162), .unset, .unset] [(.int (((p1.toUInt32 >>> ((1 : Int32) &&& 31).toUInt32).toInt32) % (33 : Int32))), (.ref b162)])) rfl rfl (hb hby at_232) _) ?_
    show OGets p e below _ (T195.setTop (mkF m 233 #[.val (.int p0), .val (.int p1), .val (.ref b162), .unset, .unset] [(.int w)]))
    refine OGets.step (fun _ => XS.iloadN X195.here hx rfl (hb hby at_233) rfl) ?_
    show OGets p e below _ (T195.setTop (mkF m 234 #[.val (.int p0), .val (.int p1), .val (.ref b162), .unset, .unset] [(.int p0), (.int w)]))
    refine OGets.step (fun _ => XS.iconst X195.here hx rfl (hb hby at_234)) ?_
    show OGets p e below _ (T195.setTop (mkF m 235 #[.val (.int p0), .val (.int p1), .val (.ref b162), .unset, .unset] [(.int (3 : Int32)), (.int p0), (.int w)]))
    refine OGets.step (fun _ => iremM (g := (mkF m 235 #[.val (.int p0), .val (.int p1), .val (.ref b162), .unset, .unset] [(.int (3 : Int32)), (.int p0), (.int w)])) X195 hx rfl (hb hby at_235) rfl (by decide)) ?_
    show OGets p e below _ (T195.setTop (mkF m 236 #[.val (.int p0), .val (.int p1), .val (.ref b162), .unset, .unset] [(.int (p0 % (3 : Int32))), (.int w)]))
    refine OGets.step (fun _ => XS.iadd X195.here hx rfl (hb hby at_236) rfl) ?_
    show OGets p e below _ (T195.setTop (mkF m 237 #[.val (.int p0), .val (.int p1), .val (.ref b162), .unset, .unset] [(.int (w + (p0 % (3 : Int32))))]))
    refine OGets.step (fun _ => XS.istoreN X195.here hx rfl (hb hby at_237) rfl (l' := #[.val (.int p0), .val (.int p1), .val (.ref b162), .val (.int (w + (p0 % (3 : Int32)))), .unset]) rfl) ?_
    show OGets p e below _ (T195.setTop (mkF m 238 #[.val (.int p0), .val (.int p1), .val (.ref b162), .val (.int (w + (p0 % (3 : Int32)))), .unset] []))
    refine OGets.step (fun _ => XS.iloadN X195.here hx rfl (hb hby at_238) rfl) ?_
    show OGets p e below _ (T195.setTop (mkF m 239 #[.val (.int p0), .val (.int p1), .val (.ref b162), .val (.int (w + (p0 % (3 : Int32)))), .unset] [(.int (w + (p0 % (3 : Int32))))]))
    obtain ⟨_, _, ⟨T204, L204, k204, n204⟩, -, X204, ⟨Lc204, hQ204, l204, y204, z204⟩, st204⟩ := Jvm.LawKit.callS X195 hx (y := (⟨"com/example/guarded_expansion/guardedexpansion/XmlCharsIsNameStartCharPinLaw", "inGap", "(I)Z"⟩ : MethodName)) hown (mvT hZ (hw _ (List.mem_of_getElem? (i := 9) rfl))) (mvT hZ (hw _ (List.mem_of_getElem? (i := 10) rfl))) (mvT hZ (hw _ (List.mem_of_getElem? (i := 11) rfl))) (mvT hZ (hw _ (List.mem_of_getElem? (i := 12) rfl))) (by decide) (backOf (W := 0) (rm_inGap l Z a0 hw [] (w + (p0 % (3 : Int32))) h195 n0  Z195 ) hZ (hw _ (List.mem_of_getElem? (i := 12) rfl)) (hw _ (List.mem_of_getElem? (i := 11) rfl)) (by decide) (by decide)) (g := (mkF m 239 #[.val (.int p0), .val (.int p1), .val (.ref b162), .val (.int (w + (p0 % (3 : Int32)))), .unset] [(.int (w + (p0 % (3 : Int32))))])) rfl (by rw [hml]; rfl) (argsL := [(.int (w + (p0 % (3 : Int32))))]) (rest := []) (lenOf pd_3 rfl) rfl (by show 2 * 0 + _ ≤ _; exact Nat.le_of_eq rfl) (hb hby at_239) (fun _ _ => ⟨rfl, e195, Nat.le_of_ble_eq_true rfl, Nat.le_of_ble_eq_true rfl⟩)
    dsimp only [Pt.U, Pt.locs, Pt.cells, Pt.slots] at X204 l204 y204 z204 st204 hQ204
    rw [l204, y204, z204] at X204
    obtain ⟨rfl, rfl, e204⟩ := hQ204
    have N204 := Fr.app N195 (Fr.nil n0)
    refine OGets.step st204 ?_
    show OGets p e below _ (T204.setTop (mkF m 242 #[.val (.int p0), .val (.int p1), .val (.ref b162), .val (.int (w + (p0 % (3 : Int32)))), .unset] [(.int (f_inGap (w + (p0 % (3 : Int32)))))]))
    by_cases hc242_205 : (f_inGap (w + (p0 % (3 : Int32)))) = (0 : Int32)
    · refine OGets.step (fun _ => XS.ifNo X204.here hx rfl (hb hby at_242) rfl ((if0 _ _).trans (teq hc242_205).2)) ?_
      show OGets p e below _ (T204.setTop (mkF m 245 #[.val (.int p0), .val (.int p1), .val (.ref b162), .val (.int (w + (p0 % (3 : Int32)))), .unset] []))
      refine OGets.step (fun _ => XS.iconst X204.here hx rfl (hb hby at_245)) ?_
      show OGets p e below _ (T204.setTop (mkF m 246 #[.val (.int p0), .val (.int p1), .val (.ref b162), .val (.int (w + (p0 % (3 : Int32)))), .unset] [(.int (1 : Int32))]))
      refine OGets.step (fun _ => XS.goto X204.here hx rfl (pc0 := 246) (pc' := 250) rfl (hb hby at_246) (by decide) (by decide)) ?_
      show OGets p e below _ (T204.setTop (mkF m 250 #[.val (.int p0), .val (.int p1), .val (.ref b162), .val (.int (w + (p0 % (3 : Int32)))), .unset] [(.int (1 : Int32))]))
      refine OGets.step (fun _ => XS.istore X204.here hx rfl (hb hby at_250) rfl (l' := #[.val (.int p0), .val (.int p1), .val (.ref b162), .val (.int (w + (p0 % (3 : Int32)))), .val (.int (1 : Int32))]) rfl) ?_
      show OGets p e below _ (T204.setTop (mkF m 252 #[.val (.int p0), .val (.int p1), .val (.ref b162), .val (.int (w + (p0 % (3 : Int32)))), .val (.int (1 : Int32))] []))
      refine OGets.step (fun _ => XS.iloadN X204.here hx rfl (hb hby at_252) rfl) ?_
      show OGets p e below _ (T204.setTop (mkF m 253 #[.val (.int p0), .val (.int p1), .val (.ref b162), .val (.int (w + (p0 % (3 : Int32)))), .val (.int (1 : Int32))] [(.int (w + (p0 % (3 : Int32))))]))
      obtain ⟨_, _, ⟨T206, L206, k206, n206⟩, -, X206, ⟨Lc206, hQ206, l206, y206, z206⟩, st206⟩ := Jvm.LawKit.callS X204 hx (y := (⟨"com/example/guarded_expansion/guardedexpansion/XmlChars", "isNameStartChar", "(I)Z"⟩ : MethodName)) hown (mvT hZ (hw _ (List.mem_of_getElem? (i := 22) rfl))) (mvT hZ (hw _ (List.mem_of_getElem? (i := 23) rfl))) (mvT hZ (hw _ (List.mem_of_getElem? (i := 24) rfl))) (mvT hZ (hw _ (List.mem_of_getElem? (i := 25) rfl))) (by decide) (backOf (W := 0) (rm_isN l Z a0 hw [] (w + (p0 % (3 : Int32))) h195 n0  Z195 ) hZ (hw _ (List.mem_of_getElem? (i := 25) rfl)) (hw _ (List.mem_of_getElem? (i := 24) rfl)) (by decide) (by decide)) (g := (mkF m 253 #[.val (.int p0), .val (.int p1), .val (.ref b162), .val (.int (w + (p0 % (3 : Int32)))), .val (.int (1 : Int32))] [(.int (w + (p0 % (3 : Int32))))])) rfl (by rw [hml]; rfl) (argsL := [(.int (w + (p0 % (3 : Int32))))]) (rest := []) (lenOf pd_3 rfl) rfl (by show 2 * 0 + _ ≤ _; exact Nat.le_of_eq rfl) (hb hby at_253) (fun _ _ => ⟨rfl, e204, Nat.le_of_ble_eq_true rfl, Nat.le_of_ble_eq_true rfl⟩)
      dsimp only [Pt.U, Pt.locs, Pt.cells, Pt.slots] at X206 l206 y206 z206 st206 hQ206
      rw [l206, y206, z206] at X206
      obtain ⟨rfl, rfl, e206⟩ := hQ206
      have N206 := Fr.app N204 (Fr.nil n0)
      refine OGets.step st206 ?_
      show OGets p e below _ (T206.setTop (mkF m 256 #[.val (.int p0), .val (.int p1), .val (.ref b162), .val (.int (w + (p0 % (3 : Int32)))), .val (.int (1 : Int32))] [(.int (f_isN (w + (p0 % (3 : Int32)))))]))
      refine OGets.step (fun _ => XS.iload X206.here hx rfl (hb hby at_256) rfl) ?_
      show OGets p e below _ (T206.setTop (mkF m 258 #[.val (.int p0), .val (.int p1), .val (.ref b162), .val (.int (w + (p0 % (3 : Int32)))), .val (.int (1 : Int32))] [(.int (1 : Int32)), (.int (f_isN (w + (p0 % (3 : Int32)))))]))
      refine OGets.step (fun _ => XS.icmpNo X206.here hx rfl (hb hby at_258) rfl (teq (own_yes _ hc242_205 : (f_isN (w + (p0 % (3 : Int32)))) = (1 : Int32))).2) ?_
      show OGets p e below _ (T206.setTop (mkF m 261 #[.val (.int p0), .val (.int p1), .val (.ref b162), .val (.int (w + (p0 % (3 : Int32)))), .val (.int (1 : Int32))] []))
      refine OGets.step (fun _ => XS.iconst X206.here hx rfl (hb hby at_261)) ?_
      show OGets p e below _ (T206.setTop (mkF m 262 #[.val (.int p0), .val (.int p1), .val (.ref b162), .val (.int (w + (p0 % (3 : Int32)))), .val (.int (1 : Int32))] [(.int (1 : Int32))]))
      refine OGets.step (fun _ => XS.goto X206.here hx rfl (pc0 := 262) (pc' := 266) rfl (hb hby at_262) (by decide) (by decide)) ?_
      show OGets p e below _ (T206.setTop (mkF m 266 #[.val (.int p0), .val (.int p1), .val (.ref b162), .val (.int (w + (p0 % (3 : Int32)))), .val (.int (1 : Int32))] [(.int (1 : Int32))]))
      refine OGets.retN X206 hx hlk (t := .boolean) Bd.returns (by simp) (hb hby at_266) (Nat.le_of_ble_eq_true rfl) (Nat.le_of_ble_eq_true rfl) ?_
      exact ⟨rfl, N206⟩
    · refine OGets.step (fun _ => XS.ifYes X204.here hx rfl (pc0 := 242) (pc' := 249) rfl (hb hby at_242) rfl ((if0 _ _).trans (feq hc242_205).2) (by decide) (by decide)) ?_
      show OGets p e below _ (T204.setTop (mkF m 249 #[.val (.int p0), .val (.int p1), .val (.ref b162), .val (.int (w + (p0 % (3 : Int32)))), .unset] []))
      refine OGets.step (fun _ => XS.iconst X204.here hx rfl (hb hby at_249)) ?_
      show OGets p e below _ (T204.setTop (mkF m 250 #[.val (.int p0), .val (.int p1), .val (.ref b162), .val (.int (w + (p0 % (3 : Int32)))), .unset] [(.int (0 : Int32))]))
      refine OGets.step (fun _ => XS.istore X204.here hx rfl (hb hby at_250) rfl (l' := #[.val (.int p0), .val (.int p1), .val (.ref b162), .val (.int (w + (p0 % (3 : Int32)))), .val (.int (0 : Int32))]) rfl) ?_
      show OGets p e below _ (T204.setTop (mkF m 252 #[.val (.int p0), .val (.int p1), .val (.ref b162), .val (.int (w + (p0 % (3 : Int32)))), .val (.int (0 : Int32))] []))
      refine OGets.step (fun _ => XS.iloadN X204.here hx rfl (hb hby at_252) rfl) ?_
      show OGets p e below _ (T204.setTop (mkF m 253 #[.val (.int p0), .val (.int p1), .val (.ref b162), .val (.int (w + (p0 % (3 : Int32)))), .val (.int (0 : Int32))] [(.int (w + (p0 % (3 : Int32))))]))
      obtain ⟨_, _, ⟨T208, L208, k208, n208⟩, -, X208, ⟨Lc208, hQ208, l208, y208, z208⟩, st208⟩ := Jvm.LawKit.callS X204 hx (y := (⟨"com/example/guarded_expansion/guardedexpansion/XmlChars", "isNameStartChar", "(I)Z"⟩ : MethodName)) hown (mvT hZ (hw _ (List.mem_of_getElem? (i := 22) rfl))) (mvT hZ (hw _ (List.mem_of_getElem? (i := 23) rfl))) (mvT hZ (hw _ (List.mem_of_getElem? (i := 24) rfl))) (mvT hZ (hw _ (List.mem_of_getElem? (i := 25) rfl))) (by decide) (backOf (W := 0) (rm_isN l Z a0 hw [] (w + (p0 % (3 : Int32))) h195 n0  Z195 ) hZ (hw _ (List.mem_of_getElem? (i := 25) rfl)) (hw _ (List.mem_of_getElem? (i := 24) rfl)) (by decide) (by decide)) (g := (mkF m 253 #[.val (.int p0), .val (.int p1), .val (.ref b162), .val (.int (w + (p0 % (3 : Int32)))), .val (.int (0 : Int32))] [(.int (w + (p0 % (3 : Int32))))])) rfl (by rw [hml]; rfl) (argsL := [(.int (w + (p0 % (3 : Int32))))]) (rest := []) (lenOf pd_3 rfl) rfl (by show 2 * 0 + _ ≤ _; exact Nat.le_of_eq rfl) (hb hby at_253) (fun _ _ => ⟨rfl, e204, Nat.le_of_ble_eq_true rfl, Nat.le_of_ble_eq_true rfl⟩)
      dsimp only [Pt.U, Pt.locs, Pt.cells, Pt.slots] at X208 l208 y208 z208 st208 hQ208
      rw [l208, y208, z208] at X208
      obtain ⟨rfl, rfl, e208⟩ := hQ208
      have N208 := Fr.app N204 (Fr.nil n0)
      refine OGets.step st208 ?_
      show OGets p e below _ (T208.setTop (mkF m 256 #[.val (.int p0), .val (.int p1), .val (.ref b162), .val (.int (w + (p0 % (3 : Int32)))), .val (.int (0 : Int32))] [(.int (f_isN (w + (p0 % (3 : Int32)))))]))
      refine OGets.step (fun _ => XS.iload X208.here hx rfl (hb hby at_256) rfl) ?_
      show OGets p e below _ (T208.setTop (mkF m 258 #[.val (.int p0), .val (.int p1), .val (.ref b162), .val (.int (w + (p0 % (3 : Int32)))), .val (.int (0 : Int32))] [(.int (0 : Int32)), (.int (f_isN (w + (p0 % (3 : Int32)))))]))
      refine OGets.step (fun _ => XS.icmpNo X208.here hx rfl (hb hby at_258) rfl (teq (own_no _ hc242_205 : (f_isN (w + (p0 % (3 : Int32)))) = (0 : Int32))).2) ?_
      show OGets p e below _ (T208.setTop (mkF m 261 #[.val (.int p0), .val (.int p1), .val (.ref b162), .val (.int (w + (p0 % (3 : Int32)))), .val (.int (0 : Int32))] []))
      refine OGets.step (fun _ => XS.iconst X208.here hx rfl (hb hby at_261)) ?_
      show OGets p e below _ (T208.setTop (mkF m 262 #[.val (.int p0), .val (.int p1), .val (.ref b162), .val (.int (w + (p0 % (3 : Int32)))), .val (.int (0 : Int32))] [(.int (1 : Int32))]))
      refine OGets.step (fun _ => XS.goto X208.here hx rfl (pc0 := 262) (pc' := 266) rfl (hb hby at_262) (by decide) (by decide)) ?_
      show OGets p e below _ (T208.setTop (mkF m 266 #[.val (.int p0), .val (.int p1), .val (.ref b162), .val (.int (w + (p0 % (3 : Int32)))), .val (.int (0 : Int32))] [(.int (1 : Int32))]))
      refine OGets.retN X208 hx hlk (t := .boolean) Bd.returns (by simp) (hb hby at_266) (Nat.le_of_ble_eq_true rfl) (Nat.le_of_ble_eq_true rfl) ?_
      exact ⟨rfl, N208⟩
set_option maxRecDepth 65536 in
set_option maxHeartbeats 40000000 in
theorem comes_1 {Post : Tables → Env → Array Value → State → Outcome → State → Prop} (hpost : ∀ tb e args s v u, (limb_1_1.after args s (.returned v) u = true ∧ limb_1_2.after args s (.returned v) u = true ∧ True) → FrameEnd s (.returned v) u (Jvm.fieldLocs frame_1_writes args s ++ Jvm.arrayLocs frame_1_arrays args s ++ Jvm.staticLocs frame_1_statics s) 16 192 → Post tb e args s (.returned v) u) :
    ArmFor flags0 classFile x code maxLocals ret World_1 tables_1 room_1 Calls_1 rest_1 Pre_1 Post := by
  intro l hfl _ _ p e ha hc hk s m args below hf hA hF happ hP
  obtain ⟨hcalls, hrest, hpre⟩ := hP
  obtain ⟨-, -, -, hnamed, -, -, -, hat⟩ := (Spec.applies_iff hf).mp happ
  obtain ⟨hg, hn⟩ := and_e (Cond.before_iff.mp (show (Jvm.Cond.and given_1 narrow_1).before args s = true from hpre))
  obtain ⟨hcount, hg0⟩ := and_e hg
  obtain ⟨ga0, hg1⟩ := and_e hg0
  have ga1 := hg1
  obtain ⟨w0, w1, rfl⟩ : ∃ w0 w1 : Value, args = #[w0, w1] := by
    have hs : args.size = 2 := by simpa [Cond.value, given_1] using hcount
    obtain ⟨L⟩ := args
    match L, hs with
    | [w0, w1], _ => exact ⟨w0, w1, rfl⟩
  have hw := fun d (hd : d ∈ tables_1) => atoms_spec (ws := Jvm.Cond.code x code maxLocals ret :: tables_1) hat d (List.mem_cons_of_mem _ hd)
  have hfit : Fit s := fun {y c} hc i hi => by
    obtain ⟨ha, rfl⟩ := Array.getElem?_eq_some_iff.mp hc
    have q := List.all_eq_true.mp ((Array.all_eq_true_iff_forall_mem.mp hF) _ (Array.getElem_mem ha)) i (List.mem_range.mpr hi)
    simpa [Array.getElem?_eq_getElem hi] using q
  obtain ⟨i0, ei0⟩ := is_v ga0
  obtain rfl : w0 = (.int i0) := Option.some.inj ei0
  obtain ⟨i1, ei1⟩ := is_v ga1
  obtain rfl : w1 = (.int i1) := Option.some.inj ei1
  obtain ⟨n, o, h1, h2, h3, _, L, rfl, ⟨rfl, N⟩, hq⟩ := rm_law l s _ hw tables_1 i0 i1 s.heap s.heap.size (Nat.le_refl _)  (OView.nil _ _ _) p e ha hc hk s m _ below hf ((Spec.applies_iff_loose hf).mp happ).1 ⟨rfl, State.Warmed39.refl s, rfl⟩ trivial
  refine ⟨n, _, h1, h2, h3, hpost _ _ _ _ _ _ ⟨Cond.after_iff.mpr rfl, Cond.after_iff.mpr (eq_i res_at (Term.int_eval (1)) rfl), trivial⟩ ⟨hq.1, hq.2.1, (hq.2.2.sift fun y hy => Or.inr (N y hy)).mono (by decide) (by decide)⟩⟩
theorem main_1_1 : Claimed_1_1 := comes_1 fun _ _ _ _ _ _ h hF => ⟨h.1, hF⟩
theorem main_1_2 : Claimed_1_2 := comes_1 fun _ _ _ _ _ _ h hF => ⟨h.2.1, hF⟩
end Jvm.Pilot.@@N@@
namespace Jvm.Pilot.@@N@@
open Jvm Jvm.ClassFile Sem Op Lib Jvm.Free Jvm.Stand Jvm.Pilot.@@N@@.Jvm.D
/-! MADE BY PROGRAM (witnessworld.py) out of the Statement's table words and the real class files: 9 classes; the members and pool entries that the words name. The judged class is class 1, her method 3. -/
namespace start1
open Jvm.ClassFile
def u (s : String) : CpInfo := .utf8 (stringToUtf16 s)
/-- a pool by its gaps: so many unusable entries, then the entry; so many at the end -/
def gap : Nat → List CpInfo → List CpInfo
  | 0, r => r
  | n + 1, r => .unusable :: gap n r
def poolList (es : List (Nat × CpInfo)) (last : Nat) : List CpInfo := es.foldr (fun e r => gap e.1 (e.2 :: r)) (gap last [])
def pool (es : List (Nat × CpInfo)) (last : Nat) : Array CpInfo := ⟨poolList es last⟩
def fileOf (pool : Array CpInfo) (this : Nat) (attrs : Array Attribute := #[]) (ms : Array MethodInfo := #[]) (fl : Nat := 33) (sup : Nat := 0) (ifs : Array Nat := #[]) (fds : Array FieldInfo := #[]) : ClassFile where
  minorVersion := 0
  majorVersion := 65
  constantPool := pool
  accessFlags := fl
  thisClass := this
  superClass := sup
  interfaces := ifs
  fields := fds
  methods := ms
  attributes := attrs
def plain (name : String) (sup : Option ClassId) : Class where
  name := name
  kind := .ordinary
  loader := none
  accessFlags := 33
  super := sup
  interfaces := #[]
  cf := none
  fields := #[]
  methods := #[]
  instanceTypes := #[]
  staticTypes := #[]
  resolved := #[]
  callSites := []
  init := .initialized
  statics := none
  mirror := none

def pool0 : Array CpInfo := pool [(5, u "<init>"), (0, u "()V"), (1, .class_ 10), (1, u "java/lang/Object")] 113

def k0m0 : Method := { name := "<init>", desc := "()V", sig := { parameters := [], returnType := none }, accessFlags := 1, code := none }
/-- java/lang/Object -/
def k0 : Class := { plain "java/lang/Object" none with
  accessFlags := 33
  interfaces := #[]
  cf := some (fileOf pool0 8 #[] #[{ accessFlags := 1, nameIndex := 5, descriptorIndex := 6, attributes := #[] }] 33 0 #[] #[])
  fields := #[]
  methods := #[k0m0]
  instanceTypes := #[]
  staticTypes := #[]
  resolved := Array.replicate 124 none
  statics := none }

def pool1 : Array CpInfo := pool [(2, .class_ 4), (1, u "java/lang/Object"), (0, u "<init>"), (0, u "()V"), (0, .methodref 8 9), (0, .class_ 10), (0, .nameAndType 11 12), (0, u "com/example/guarded_expansion/guardedexpansion/XmlCharsIsNameStartCharPinLaw"), (0, u "in"), (0, u "(III)Z"), (0, .integer 55296), (0, .integer 63743), (0, .integer 64976), (0, .integer 65007), (0, .integer 65534), (0, .integer 65535), (0, .integer 983039), (0, .integer 55295), (0, .integer 63744), (0, .integer 64975), (0, .integer 65008), (0, .integer 65533), (0, .integer 65536), (0, .integer 1114111), (0, .methodref 8 28), (0, .nameAndType 29 30), (0, u "inGap"), (0, u "(I)Z"), (0, .methodref 32 33), (0, .class_ 34), (0, .nameAndType 35 30), (0, u "com/example/guarded_expansion/guardedexpansion/XmlChars"), (0, u "isNameStartChar"), (3, u "law"), (0, u "(II)Z")] 4

def k1m0 : Method := { name := "<init>", desc := "()V", sig := { parameters := [], returnType := none }, accessFlags := 2, code := none }
def k1c1 : Code := { maxStack := 2, maxLocals := 3, code := method_2_code, exceptionTable := #[], attributes := #[] }
def k1m1 : Method := { name := "in", desc := "(III)Z", sig := { parameters := [.int, .int, .int], returnType := some .boolean }, accessFlags := 10, code := some k1c1 }
def k1c2 : Code := { maxStack := 3, maxLocals := 1, code := method_3_code, exceptionTable := #[], attributes := #[] }
def k1m2 : Method := { name := "inGap", desc := "(I)Z", sig := { parameters := [.int], returnType := some .boolean }, accessFlags := 10, code := some k1c2 }
def k1c3 : Code := { maxStack := 4, maxLocals := 5, code := code, exceptionTable := #[], attributes := #[] }
def k1m3 : Method := { name := "law", desc := "(II)Z", sig := { parameters := [.int, .int], returnType := some .boolean }, accessFlags := 9, code := some k1c3 }
/-- com/example/guarded_expansion/guardedexpansion/XmlCharsIsNameStartCharPinLaw -/
def k1 : Class := { plain "com/example/guarded_expansion/guardedexpansion/XmlCharsIsNameStartCharPinLaw" (some 0) with
  accessFlags := 49
  interfaces := #[]
  cf := some (fileOf pool1 8 #[] #[{ accessFlags := 2, nameIndex := 5, descriptorIndex := 6, attributes := #[] }, { accessFlags := 10, nameIndex := 11, descriptorIndex := 12, attributes := #[] }, { accessFlags := 10, nameIndex := 29, descriptorIndex := 30, attributes := #[] }, { accessFlags := 9, nameIndex := 39, descriptorIndex := 40, attributes := #[] }] 49 2 #[] #[])
  fields := #[]
  methods := #[k1m0, k1m1, k1m2, k1m3]
  instanceTypes := #[]
  staticTypes := #[]
  resolved := Array.replicate 45 none
  statics := none }

def pool2 : Array CpInfo := pool [(2, .class_ 4), (1, u "java/lang/Object"), (0, u "<init>"), (0, u "()V"), (0, .integer 55295), (1, .integer 65533), (0, .integer 65536), (1, .integer 63744), (0, .integer 64975), (0, .integer 65008), (0, .integer 983039), (1, .class_ 19), (1, u "com/example/guarded_expansion/guardedexpansion/XmlChars"), (0, u "ASCII_NAME_START_CHARS"), (0, u "[Z"), (2, u "ASCII_NAME_CHARS"), (7, u "(I)Z"), (2, u "isNameStartChar")] 61

def k2m0 : Method := { name := "<init>", desc := "()V", sig := { parameters := [], returnType := none }, accessFlags := 2, code := none }
def k2c1 : Code := { maxStack := 2, maxLocals := 1, code := prog_62_method_4_code, exceptionTable := #[], attributes := #[] }
def k2m1 : Method := { name := "isNameStartChar", desc := "(I)Z", sig := { parameters := [.int], returnType := some .boolean }, accessFlags := 8, code := some k2c1 }
/-- com/example/guarded_expansion/guardedexpansion/XmlChars -/
def k2 : Class := { plain "com/example/guarded_expansion/guardedexpansion/XmlChars" (some 0) with
  accessFlags := 32
  interfaces := #[]
  cf := some (fileOf pool2 17 #[] #[{ accessFlags := 2, nameIndex := 5, descriptorIndex := 6, attributes := #[] }, { accessFlags := 8, nameIndex := 35, descriptorIndex := 32, attributes := #[] }] 32 2 #[] #[{ accessFlags := 26, nameIndex := 24, descriptorIndex := 21, attributes := #[] }, { accessFlags := 26, nameIndex := 20, descriptorIndex := 21, attributes := #[] }])
  fields := #[{ name := "ASCII_NAME_CHARS", type := (.array .boolean), accessFlags := 26, slot := 0, constantValue := 0 }, { name := "ASCII_NAME_START_CHARS", type := (.array .boolean), accessFlags := 26, slot := 1, constantValue := 0 }]
  methods := #[k2m0, k2m1]
  instanceTypes := #[]
  staticTypes := #[(.array .boolean), (.array .boolean)]
  resolved := Array.replicate 97 none
  statics := none }

def pool3 : Array CpInfo := pool [(1, u "java/lang/Cloneable"), (0, .class_ 1), (0, u "java/lang/Object"), (0, .class_ 3)] 3

/-- java/lang/Cloneable -/
def k3 : Class := { plain "java/lang/Cloneable" (some 0) with
  accessFlags := 1537
  interfaces := #[]
  cf := some (fileOf pool3 2 #[] #[] 1537 4 #[] #[])
  fields := #[]
  methods := #[]
  instanceTypes := #[]
  staticTypes := #[]
  resolved := Array.replicate 8 none
  statics := none }

def pool4 : Array CpInfo := pool [(1, u "java/io/Serializable"), (0, .class_ 1), (0, u "java/lang/Object"), (0, .class_ 3)] 3

/-- java/io/Serializable -/
def k4 : Class := { plain "java/io/Serializable" (some 0) with
  accessFlags := 1537
  interfaces := #[]
  cf := some (fileOf pool4 2 #[] #[] 1537 4 #[] #[])
  fields := #[]
  methods := #[]
  instanceTypes := #[]
  staticTypes := #[]
  resolved := Array.replicate 8 none
  statics := none }

/-- the primitive byte -/
def k5 : Class := { plain "byte" none with kind := .primitive 'B', accessFlags := 0x411 }
/-- [B -/
def k6 : Class := { plain "[B" (some 0) with kind := .array 5 .byte, interfaces := #[3, 4], accessFlags := 1041 }

/-- the primitive int -/
def k7 : Class := { plain "int" none with kind := .primitive 'I', accessFlags := 0x411 }
/-- [I -/
def k8 : Class := { plain "[I" (some 0) with kind := .array 7 .int, interfaces := #[3, 4], accessFlags := 1041 }

def heap : Heap := #[]
def classes : Array Class := #[k0, k1, k2, k3, k4, k5, k6, k7, k8]
def interned : List (Array UInt16 × Addr) := []
def slotsUsed : Nat := 0
def theMethod : MethodId := ⟨1, 3⟩
def args0 : Array Value := #[.int 5, .int 70]
def aboutOver (below : List Frame) : State where
  vm := { classes := classes, interned := interned.toArray }
  heap := heap
  slotsUsed := slotsUsed
  threads := #[{ frames := .invoking theMethod args0 :: below }]
def below0 : List Frame := [.native { method := ⟨0, 0⟩, args := #[] }]
def about1 : State := aboutOver below0
def p0 : Program := .bare "" "" ""
def e0 : Env := launch0.env 0 0 0
theorem w_frames : about1.frames = Frame.invoking theMethod args0 :: below0 := rfl
set_option maxRecDepth 65536 in
theorem w_args : argsFit about1.vm theMethod args0 = true := by decide +kernel
set_option maxRecDepth 65536 in
theorem w_heap : heapFits about1 = true := by decide +kernel
set_option maxRecDepth 65536 in
theorem w_runnable : about1.curStatus? = some .runnable := by decide +kernel
set_option maxRecDepth 65536 in
theorem w_alone : about1.alone = true := by decide +kernel
set_option maxRecDepth 65536 in
theorem w_named : about1.methodNamed? x = some theMethod := by decide +kernel
set_option maxRecDepth 65536 in
theorem w_hears : about1.hears theMethod below0 = true := by decide +kernel
set_option maxRecDepth 65536 in
theorem w_ripe : about1.ripe theMethod args0 below0 = true := by decide +kernel
theorem w_running : about1.status = .running := rfl
set_option maxRecDepth 65536 in
theorem w_room : about1.hasRoom e0.platform room_1 = true :=
  launch0.hasRoom_least _ room_1 (by decide +kernel) (by decide +kernel) (by decide +kernel) (by decide +kernel) (by decide +kernel) (by decide +kernel)
theorem allAtoms_all (ts : List Jvm.Cond) (a : Array Jvm.Value) (st : Jvm.State) : (allAtoms ts).before a st = ts.all (fun c => c.before a st) := by
  induction ts with
  | nil => rfl
  | cons c t ih =>
    show (Jvm.Cond.and c (allAtoms t)).before a st = _
    rw [Jvm.Cond.before_and, ih, List.all_cons]
def words1 : List Jvm.Cond := Jvm.Cond.code x code maxLocals ret :: tables_1
/-- a 'code' word, met by the world's own term for the bytes: nothing is compared byte by byte -/
theorem code_word {y : MethodName} {bytes : ByteArray} {mx : Nat} {rt : Option FieldType} {a : Array Value} {s : State} {m : MethodId} {meth : Method} {c : Code} (h1 : s.methodNamed? y = some m) (h2 : s.vm.method? m = some meth) (h3 : meth.code = some c) (h4 : c.code = bytes)
    (h5 : (c.maxLocals == mx && c.exceptionTable.isEmpty && decide (c.maxStack ≤ mostOperands) && decide (meth.sig.returnType = rt) && !meth.locks && decide (parseMethodDescriptor y.desc = some meth.sig)) = true) : (Jvm.Cond.code y bytes mx rt).before a s = true := by
  simp only [Bool.and_eq_true, beq_iff_eq, Bool.not_eq_true', decide_eq_true_eq] at h5
  obtain ⟨⟨⟨⟨⟨g1, g2⟩, g3⟩, g4⟩, g5⟩, g6⟩ := h5
  simp [Cond.before, Cond.holds, Cond.value, h1, h2, h3, h4, g1, g2, g3, g4, g5, g6]
def isCode : Jvm.Cond → Bool
  | .code _ _ _ _ => true
  | _ => false
theorem all_split {L : List Jvm.Cond} {P : Jvm.Cond → Bool} (h1 : L.all (fun c => isCode c || P c) = true) (h2 : ∀ c ∈ L.filter isCode, P c = true) : L.all P = true := by
  refine List.all_eq_true.mpr fun c hc => ?_
  have h := List.all_eq_true.mp h1 c hc
  rcases Bool.eq_false_or_eq_true (isCode c) with hi | hi
  · exact h2 c (List.mem_filter.mpr ⟨hc, hi⟩)
  · simpa [hi] using h
set_option maxRecDepth 65536 in
theorem w_c0 : (Jvm.Cond.code x code maxLocals ret).before args0 about1 = true := code_word (m := ⟨1, 3⟩) (meth := k1m3) (c := k1c3) (by decide +kernel) rfl rfl rfl (by decide +kernel)
set_option maxRecDepth 65536 in
theorem w_c1 : (Jvm.Cond.code ({ cls := "com/example/guarded_expansion/guardedexpansion/XmlCharsIsNameStartCharPinLaw", name := "inGap", desc := "(I)Z" } : Jvm.MethodName) method_3_code (1 : Nat) (Option.some Jvm.ClassFile.FieldType.boolean)).before args0 about1 = true := code_word (m := ⟨1, 2⟩) (meth := k1m2) (c := k1c2) (by decide +kernel) rfl rfl rfl (by decide +kernel)
set_option maxRecDepth 65536 in
theorem w_c2 : (Jvm.Cond.code ({ cls := "com/example/guarded_expansion/guardedexpansion/XmlCharsIsNameStartCharPinLaw", name := "in", desc := "(III)Z" } : Jvm.MethodName) method_2_code (3 : Nat) (Option.some Jvm.ClassFile.FieldType.boolean)).before args0 about1 = true := code_word (m := ⟨1, 1⟩) (meth := k1m1) (c := k1c1) (by decide +kernel) rfl rfl rfl (by decide +kernel)
set_option maxRecDepth 65536 in
theorem w_c3 : (Jvm.Cond.code ({ cls := "com/example/guarded_expansion/guardedexpansion/XmlChars", name := "isNameStartChar", desc := "(I)Z" } : Jvm.MethodName) prog_62_method_4_code (1 : Nat) (Option.some Jvm.ClassFile.FieldType.boolean)).before args0 about1 = true := code_word (m := ⟨2, 1⟩) (meth := k2m1) (c := k2c1) (by decide +kernel) rfl rfl rfl (by decide +kernel)
def codes1 : List Jvm.Cond := [Jvm.Cond.code x code maxLocals ret, Jvm.Cond.code ({ cls := "com/example/guarded_expansion/guardedexpansion/XmlCharsIsNameStartCharPinLaw", name := "inGap", desc := "(I)Z" } : Jvm.MethodName) method_3_code (1 : Nat) (Option.some Jvm.ClassFile.FieldType.boolean), Jvm.Cond.code ({ cls := "com/example/guarded_expansion/guardedexpansion/XmlCharsIsNameStartCharPinLaw", name := "in", desc := "(III)Z" } : Jvm.MethodName) method_2_code (3 : Nat) (Option.some Jvm.ClassFile.FieldType.boolean), Jvm.Cond.code ({ cls := "com/example/guarded_expansion/guardedexpansion/XmlChars", name := "isNameStartChar", desc := "(I)Z" } : Jvm.MethodName) prog_62_method_4_code (1 : Nat) (Option.some Jvm.ClassFile.FieldType.boolean)]
set_option maxRecDepth 65536 in
theorem codes_eq : words1.filter isCode = codes1 := rfl
theorem w_codes : ∀ c ∈ words1.filter isCode, c.before args0 about1 = true := by
  rw [codes_eq]
  intro c hc
  simp only [codes1, List.mem_cons, List.not_mem_nil, or_false] at hc
  rcases hc with rfl | rfl | rfl | rfl
  · exact w_c0
  · exact w_c1
  · exact w_c2
  · exact w_c3
set_option maxRecDepth 65536 in
theorem w_t1 : (words1.take 24).all (fun c => isCode c || c.before args0 about1) = true := by decide +kernel
set_option maxRecDepth 65536 in
theorem w_t2 : (words1.drop 24).all (fun c => isCode c || c.before args0 about1) = true := by decide +kernel
theorem w_tables : (allAtoms (Jvm.Cond.code x code maxLocals ret :: tables_1)).before args0 about1 = true := by
  rw [allAtoms_all]
  show words1.all (fun c => c.before args0 about1) = true
  refine all_split ?_ w_codes
  rw [← List.take_append_drop 24 words1, List.all_append, w_t1, w_t2]
  rfl
set_option maxRecDepth 65536 in
theorem w_case : (Jvm.Cond.and given_1 narrow_1).before args0 about1 = true := by decide +kernel
theorem w_applies : (headSpec (Jvm.Cond.code x code maxLocals ret :: tables_1) room_1).applies x e0.platform about1 = true :=
  (Spec.applies_iff w_frames).mpr ⟨w_running, w_runnable, w_alone, w_named, w_hears, w_ripe, w_room, w_tables⟩
theorem atStart : AtStart classFile x code maxLocals ret World_1 tables_1 room_1 Calls_1 rest_1 Pre_1 launch0 p0 e0 about1 theMethod args0 below0 :=
  ⟨lists_1, trivial, launch0.admits_env _ _ _, launch0.least_env, fairChoices_fair.cas, fairChoices_fair.clock, w_frames, w_args, w_heap, w_applies, trivial, trivial, w_case⟩
end start1
theorem witness_1 : WitnessClaimed_1 := ⟨start1.p0, start1.e0, start1.about1, start1.theMethod, start1.args0, start1.below0, start1.atStart⟩
end Jvm.Pilot.@@N@@
