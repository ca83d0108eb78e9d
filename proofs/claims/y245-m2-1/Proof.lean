import JvmDerived
import JvmDerived.Pilot.@@N@@Statement
import JvmDerived.Pilot.@@N@@Code
set_option linter.unusedVariables false
set_option linter.unusedSimpArgs false
namespace Jvm.Pilot.@@N@@
open Jvm Jvm.ClassFile Sem Op Lib Jvm.Free Jvm.Stand Jvm.LawKit Jvm.RoadKit Bundle Jvm.Pilot.@@N@@.Jvm.D
/-! OWN KIT: a walk as a goal that goes forward (OGets), and a list of the fresh objects with what they hold (OView) -/
section OwnKit
variable {p : Program} {l : Launch} {e : Env} {R : Room} {s : State} {m : MethodId} {args : Array Value} {below : List Frame} {meth : Method} {c : Code} {T : State} {locs : List Loc} {cells slots : Nat} {Z : State} {a0 : Array Value} {h h' : Heap} {n0 : Nat}
/-- from U the run comes to an end that P allows -/
def OGets (p : Program) (e : Env) (below : List Frame) (P : State → Outcome → Prop) (U : State) : Prop := ∃ s₂ o, Steps p.tables e below U s₂ ∧ s₂.status = .running ∧ Ended s₂ below o ∧ P s₂ o
def OLeaves (s : State) (Q : Option Value → Heap → List Loc → Prop) (k n : Nat) (t : State) (o : Outcome) : Prop := ∃ v L, o = .returned v ∧ Q v t.heap L ∧ FrameEnd s o t L k n
theorem OGets.step {P : State → Outcome → Prop} {U U' : State} (k : ∀ t, Steps p.tables e below U' t → Steps p.tables e below U t) (g : OGets p e below P U') : OGets p e below P U := by
  obtain ⟨t, o, h1, h2⟩ := g
  exact ⟨t, o, k t h1, h2⟩
theorem OGets.after {P : State → Outcome → Prop} {U U' : State} (k : Steps p.tables e below U U') (g : OGets p e below P U') : OGets p e below P U := by
  obtain ⟨t, o, h1, h2⟩ := g
  exact ⟨t, o, k.trans h1, h2⟩
theorem OGets.enter {P : State → Outcome → Prop} {g g' : JFrame} (q : g = g') (k : OGets p e below P (T.setTop g')) : OGets p e below P (T.setTop g) := q ▸ k
theorem OGets.cut {P : State → Outcome → Prop} {U U' : State} (k : OGets p e below P U') (f : OGets p e below P U' → OGets p e below P U) : OGets p e below P U := f k
theorem OGets.retN (X : Stand p l e R s m args below meth c T locs cells slots) (hx : p.tables.exec = Jvm.exec) (hk : meth.locks = false) {t : FieldType} (hret : meth.sig.returnType = some t) (ht : t = .boolean ∨ t = .byte ∨ t = .char ∨ t = .short) {pc : Nat} {Ls : Array Slot} {z : Int32} {rest : List Value}
    (hd : decode c.code pc = .ok (.ireturn, 1)) {Q : Option Value → Heap → List Loc → Prop} {k n : Nat} (hc : cells ≤ k) (hs : slots ≤ n) (hQ : Q (some (.int (nar t z))) T.heap locs) : OGets p e below (OLeaves s Q k n) (T.setTop (mkF m pc Ls (.int z :: rest))) := by
  obtain ⟨fs, hr, hrun, hended, hW, hsame⟩ := X.leave (v := some (.int (nar t z))) (fun h => by rw [hret] at h; cases h) hk
  exact ⟨_, _, Jvm.RoadKit.retN X hx hret ht hd hr, hrun, hended, _, _, rfl, hQ, ⟨_, rfl⟩, hW, hsame.mono hc hs⟩
theorem OGets.retI (X : Stand p l e R s m args below meth c T locs cells slots) (hx : p.tables.exec = Jvm.exec) (hk : meth.locks = false) (hret : meth.sig.returnType = some .int) {pc : Nat} {Ls : Array Slot} {z : Int32} {rest : List Value}
    (hd : decode c.code pc = .ok (.ireturn, 1)) {Q : Option Value → Heap → List Loc → Prop} {k n : Nat} (hc : cells ≤ k) (hs : slots ≤ n) (hQ : Q (some (.int z)) T.heap locs) : OGets p e below (OLeaves s Q k n) (T.setTop (mkF m pc Ls (.int z :: rest))) := by
  obtain ⟨fs, hr, hrun, hended, hW, hsame⟩ := X.leave (v := some (.int z)) (fun h => by rw [hret] at h; cases h) hk
  exact ⟨_, _, Jvm.RoadKit.retOut X hx hret rfl (Or.inl ⟨rfl, Or.inl rfl, _, rfl⟩) hd hr, hrun, hended, _, _, rfl, hQ, ⟨_, rfl⟩, hW, hsame.mono hc hs⟩
theorem OGets.retJ (X : Stand p l e R s m args below meth c T locs cells slots) (hx : p.tables.exec = Jvm.exec) (hk : meth.locks = false) (hret : meth.sig.returnType = some .long) {pc : Nat} {Ls : Array Slot} {z : Int64} {rest : List Value}
    (hd : decode c.code pc = .ok (.lreturn, 1)) {Q : Option Value → Heap → List Loc → Prop} {k n : Nat} (hc : cells ≤ k) (hs : slots ≤ n) (hQ : Q (some (.long z)) T.heap locs) : OGets p e below (OLeaves s Q k n) (T.setTop (mkF m pc Ls (.long z :: rest))) := by
  obtain ⟨fs, hr, hrun, hended, hW, hsame⟩ := X.leave (v := some (.long z)) (fun h => by rw [hret] at h; cases h) hk
  exact ⟨_, _, Jvm.RoadKit.retOut X hx hret rfl (Or.inr (Or.inl ⟨rfl, rfl, _, rfl⟩)) hd hr, hrun, hended, _, _, rfl, hQ, ⟨_, rfl⟩, hW, hsame.mono hc hs⟩
theorem OGets.retA (X : Stand p l e R s m args below meth c T locs cells slots) (hx : p.tables.exec = Jvm.exec) (hk : meth.locks = false) {t : FieldType} (hret : meth.sig.returnType = some t) (ht : t.isReference = true) {pc : Nat} {Ls : Array Slot} {w : Value} {rest : List Value} (hw : w.isRef = true) (hn : narrow t w = w)
    (hd : decode c.code pc = .ok (.areturn, 1)) {Q : Option Value → Heap → List Loc → Prop} {k n : Nat} (hc : cells ≤ k) (hs : slots ≤ n) (hQ : Q (some w) T.heap locs) : OGets p e below (OLeaves s Q k n) (T.setTop (mkF m pc Ls (w :: rest))) := by
  obtain ⟨fs, hr, hrun, hended, hW, hsame⟩ := X.leave (v := some w) (fun h => by rw [hret] at h; cases h) hk
  exact ⟨_, _, Jvm.RoadKit.retOut X hx hret hn (Or.inr (Or.inr (Or.inr (Or.inr ⟨rfl, ht, hw⟩)))) hd hr, hrun, hended, _, _, rfl, hQ, ⟨_, rfl⟩, hW, hsame.mono hc hs⟩
theorem OGets.retV (X : Stand p l e R s m args below meth c T locs cells slots) (hx : p.tables.exec = Jvm.exec) (hk : meth.locks = false) (hret : meth.sig.returnType = none) {pc : Nat} {Ls : Array Slot}
    (hd : decode c.code pc = .ok (.return_, 1)) {Q : Option Value → Heap → List Loc → Prop} {k n : Nat} (hc : cells ≤ k) (hs : slots ≤ n) (hQ : Q none T.heap locs) : OGets p e below (OLeaves s Q k n) (T.setTop (mkF m pc Ls [])) := by
  obtain ⟨fs, hr, hrun, hended, hW, hsame⟩ := X.leave (v := none) (fun _ => rfl) hk
  exact ⟨_, _, X.returnOut hx hret hd hr, hrun, hended, _, _, rfl, hQ, ⟨_, rfl⟩, hW, hsame.mono hc hs⟩
/-- an object (class, fields, their values) or an array (what it is of, its components) -/
abbrev OObj : Type := Sum (String × List (String × String × String) × List Value) (FieldType × List Value)
def OHold (Z : State) (h : Heap) (a : Addr) (o : OObj) : Prop :=
  (∀ q, o = Sum.inl q → Exa Z h a q.1 ∧ q.2.1.Pairwise (fun x y => Jvm.RoadKit.slotOf Z x.1 x.2.1 x.2.2 ≠ Jvm.RoadKit.slotOf Z y.1 y.2.1 y.2.2) ∧ ∀ (j : Nat) (k : String × String × String) (v : Value), q.2.1[j]? = some k → q.2.2[j]? = some v → Fld Z h a k.1 k.2.1 k.2.2 v) ∧
  (∀ q, o = Sum.inr q → ∃ cl : Cell, Arr Z h a cl q.1 ∧ cl.slots.toList = q.2)
variable {a b : Addr} {o : OObj} {sl : Nat} {v : Value} {os : List (Addr × OObj)} {C : String} {ns : List (String × String × String)} {vs : List Value} {ty : FieldType}
theorem OHold.other (W : Wr h h' a sl v) (hne : b ≠ a) (H : OHold Z h b o) : OHold Z h' b o := by
  refine ⟨fun q hq => ?_, fun q hq => ?_⟩
  · obtain ⟨h1, h2, h3⟩ := H.1 q hq
    exact ⟨h1.wr W, h2, fun j k w e1 e2 => (h3 j k w e1 e2).other W (Or.inl hne)⟩
  · obtain ⟨cl, h1, h2⟩ := H.2 q hq
    exact ⟨cl, h1.other W hne, h2⟩
theorem OHold.ext (E : Ext h h') (H : OHold Z h b o) : OHold Z h' b o := by
  refine ⟨fun q hq => ?_, fun q hq => ?_⟩
  · obtain ⟨h1, h2, h3⟩ := H.1 q hq
    exact ⟨h1.ext E, h2, fun j k w e1 e2 => (h3 j k w e1 e2).ext E⟩
  · obtain ⟨cl, h1, h2⟩ := H.2 q hq
    exact ⟨cl, h1.ext E, h2⟩
theorem OHold.obj (h1 : Exa Z h a C) (h2 : ns.Pairwise (fun x y => Jvm.RoadKit.slotOf Z x.1 x.2.1 x.2.2 ≠ Jvm.RoadKit.slotOf Z y.1 y.2.1 y.2.2)) (h3 : ∀ (j : Nat) (k : String × String × String) (v : Value), ns[j]? = some k → vs[j]? = some v → Fld Z h a k.1 k.2.1 k.2.2 v) : OHold Z h a (Sum.inl (C, ns, vs)) :=
  ⟨fun q hq => (by cases hq; exact ⟨h1, h2, h3⟩), fun q hq => (by cases hq)⟩
theorem OHold.arr {cl : Cell} (h1 : Arr Z h a cl ty) (h2 : cl.slots.toList = vs) : OHold Z h a (Sum.inr (ty, vs)) :=
  ⟨fun q hq => (by cases hq), fun q hq => (by cases hq; exact ⟨cl, h1, h2⟩)⟩
theorem OHold.putF (H : OHold Z h a (Sum.inl (C, ns, vs))) {j : Nat} {k : String × String × String} (hj : ns[j]? = some k) (W : Wr h h' a (Jvm.RoadKit.slotOf Z k.1 k.2.1 k.2.2) v) : OHold Z h' a (Sum.inl (C, ns, vs.set j v)) := by
  obtain ⟨h1, h2, h3⟩ := H.1 _ rfl
  refine OHold.obj (h1.wr W) h2 fun i k' w e1 e2 => ?_
  by_cases q : j = i
  · subst q
    rw [hj] at e1; cases e1
    rw [List.getElem?_set] at e2
    split at e2
    · split at e2
      · rename_i hlt
        cases e2
        exact (h3 j k _ hj (List.getElem?_eq_getElem hlt)).same W
      · cases e2
    · exact absurd rfl ‹_›
  · rw [List.getElem?_set_ne q] at e2
    refine (h3 i k' w e1 e2).other W (Or.inr ?_)
    obtain ⟨hi, e1⟩ := List.getElem?_eq_some_iff.mp e1
    obtain ⟨hj', hj⟩ := List.getElem?_eq_some_iff.mp hj
    have P := List.pairwise_iff_getElem.mp h2
    subst e1 hj
    rcases Nat.lt_or_gt_of_ne q with q | q
    · exact (P j i hj' hi q).symm
    · exact P i j hi hj' q
theorem OHold.putA (H : OHold Z h a (Sum.inr (ty, vs))) {j : Nat} (W : Wr h h' a j v) : OHold Z h' a (Sum.inr (ty, vs.set j v)) := by
  obtain ⟨cl, h1, h2⟩ := H.2 _ rfl
  exact OHold.arr (h1.same W) (by show (cl.slots.setIfInBounds j v).toList = vs.set j v; rw [Array.toList_setIfInBounds]; exact congrArg (fun z => z.set j v) h2)
/-- the objects made since the law began, as a list: no two at one place, none old, each as said -/
def OView (Z : State) (n0 : Nat) (h : Heap) (os : List (Addr × OObj)) : Prop := (os.map (·.1)).Nodup ∧ ∀ q ∈ os, n0 ≤ q.1 ∧ q.1 < h.size ∧ OHold Z h q.1 q.2
theorem OView.nil (Z : State) (n0 : Nat) (h : Heap) : OView Z n0 h [] := ⟨List.nodup_nil, fun q hq => by cases hq⟩
theorem OView.perm {os' : List (Addr × OObj)} (V : OView Z n0 h os) (P : os.Perm os') : OView Z n0 h os' := ⟨(P.map _).nodup_iff.mp V.1, fun q hq => V.2 q (P.mem_iff.mpr hq)⟩
theorem own_bring {α : Type} : ∀ (os : List α) (i : Nat) (q : α), os[i]? = some q → os.Perm (q :: os.eraseIdx i)
  | [], i, q, hq => by cases hq
  | x :: t, 0, q, hq => by cases hq; exact List.Perm.refl _
  | x :: t, i + 1, q, hq => (List.Perm.cons x (own_bring t i q hq)).trans (List.Perm.swap q x _)
theorem own_set {α : Type} : ∀ (os : List α) (i : Nat) (q r : α), os[i]? = some q → (r :: os.eraseIdx i).Perm (os.set i r)
  | [], i, q, r, hq => by cases hq
  | x :: t, 0, q, r, hq => List.Perm.refl _
  | x :: t, i + 1, q, r, hq => (List.Perm.swap x r _).trans (List.Perm.cons x (own_set t i q r hq))
theorem OView.bring (V : OView Z n0 h os) (i : Nat) {q : Addr × OObj} (hq : os[i]? = some q) : OView Z n0 h (q :: os.eraseIdx i) := V.perm (own_bring os i q hq)
theorem OView.at (V : OView Z n0 h os) (i : Nat) {q : Addr × OObj} (hq : os[i]? = some q) : n0 ≤ q.1 ∧ q.1 < h.size ∧ OHold Z h q.1 q.2 := V.2 q (List.mem_of_getElem? hq)
theorem OView.old (V : OView Z n0 h os) (i : Nat) {a : Addr} {o : OObj} (hq : os[i]? = some (a, o)) : n0 ≤ a := (V.at i hq).1
theorem OView.big (V : OView Z n0 h os) (i : Nat) {q : Addr × OObj} (hq : os[i]? = some q) : n0 ≤ h.size := Nat.le_trans (V.at i hq).1 (Nat.le_of_lt (V.at i hq).2.1)
theorem OView.exa (V : OView Z n0 h os) (i : Nat) {a : Addr} (hq : os[i]? = some (a, Sum.inl (C, ns, vs))) : Exa Z h a C := ((V.at i hq).2.2.1 _ rfl).1
theorem OView.fld (V : OView Z n0 h os) (i : Nat) {a : Addr} (hq : os[i]? = some (a, Sum.inl (C, ns, vs))) (j : Nat) {O n d : String} (hj : ns[j]? = some (O, n, d)) (hv : vs[j]? = some v) : Fld Z h a O n d v := ((V.at i hq).2.2.1 _ rfl).2.2 j _ v hj hv
theorem OView.arr (V : OView Z n0 h os) (i : Nat) {a : Addr} (hq : os[i]? = some (a, Sum.inr (ty, vs))) : ∃ cl : Cell, Arr Z h a cl ty ∧ cl.slots.toList = vs := (V.at i hq).2.2.2 _ rfl
theorem OView.up (V : OView Z n0 h os) (W : Wr h h' a sl v) (i : Nat) {o o' : OObj} (hq : os[i]? = some (a, o)) (H : OHold Z h' a o') : OView Z n0 h' (os.set i (a, o')) := by
  have V1 := V.bring i hq
  have V2 : OView Z n0 h' ((a, o') :: os.eraseIdx i) := by
    refine ⟨V1.1, fun q hq' => ?_⟩
    rcases List.mem_cons.mp hq' with rfl | hq'
    · exact ⟨(V.at i hq).1, by rw [W.size]; exact (V.at i hq).2.1, H⟩
    · obtain ⟨h1, h2, h3⟩ := V1.2 q (List.mem_cons_of_mem _ hq')
      refine ⟨h1, by rw [W.size]; exact h2, h3.other W fun e => ?_⟩
      have := (List.nodup_cons.mp V1.1).1
      exact this (List.mem_map.mpr ⟨q, hq', e⟩)
  exact V2.perm (own_set os i _ _ hq)
theorem OView.putF (V : OView Z n0 h os) (i : Nat) (hq : os[i]? = some (a, Sum.inl (C, ns, vs))) (j : Nat) {O n d : String} (hj : ns[j]? = some (O, n, d)) (W : Wr h h' a (Jvm.RoadKit.slotOf Z O n d) v) : OView Z n0 h' (os.set i (a, Sum.inl (C, ns, vs.set j v))) := V.up W i hq ((V.at i hq).2.2.putF hj W)
theorem OView.putA (V : OView Z n0 h os) (i : Nat) (hq : os[i]? = some (a, Sum.inr (ty, vs))) {j : Nat} (W : Wr h h' a j v) : OView Z n0 h' (os.set i (a, Sum.inr (ty, vs.set j v))) := V.up W i hq ((V.at i hq).2.2.putA W)
theorem OView.ext (V : OView Z n0 h os) (E : Ext h h') : OView Z n0 h' os := ⟨V.1, fun q hq => ⟨(V.2 q hq).1, Nat.lt_of_lt_of_le (V.2 q hq).2.1 E.1, (V.2 q hq).2.2.ext E⟩⟩
theorem OView.cons (V : OView Z n0 h os) (hn : n0 ≤ h.size) (E : Ext h h') (hlt : h.size < h'.size) (H : OHold Z h' h.size o) : OView Z n0 h' ((h.size, o) :: os) := by
  refine ⟨List.nodup_cons.mpr ⟨fun hm => ?_, V.1⟩, fun q hq => ?_⟩
  · obtain ⟨q, h1, h2⟩ := List.mem_map.mp hm
    exact Nat.lt_irrefl _ (h2 ▸ (V.2 q h1).2.1)
  · rcases List.mem_cons.mp hq with rfl | hq
    · exact ⟨hn, hlt, H⟩
    · exact (V.ext E).2 q hq
theorem own_pair (hL : ∀ x ∈ ns, Laid Z a0 C x.1 x.2.1 x.2.2) (hd : ∀ x ∈ ns, (parseFieldDescriptor x.2.2).isSome = true) (hn : ns.Pairwise (fun x y => x.2.1 ≠ y.2.1)) : ns.Pairwise (fun x y => Jvm.RoadKit.slotOf Z x.1 x.2.1 x.2.2 ≠ Jvm.RoadKit.slotOf Z y.1 y.2.1 y.2.2) :=
  hn.imp_of_mem fun {x y} hx hy hne => by
    obtain ⟨t, ht⟩ := Option.isSome_iff_exists.mp (hd x hx)
    obtain ⟨t', ht'⟩ := Option.isSome_iff_exists.mp (hd y hy)
    exact slot_ne (hL x hx) (hL y hy) hne ht ht'
/-- a fresh object, as 'new' leaves it -/
theorem OView.newObj (V : OView Z n0 h os) (hn : n0 ≤ h.size) (E : Ext h h') (A : Exa Z h' h.size C) (D : ∀ {O nm d : String} {ty : FieldType}, Laid Z a0 C O nm d → parseFieldDescriptor d = some ty → Fld Z h' h.size O nm d (defaultValue ty))
    (hL : ∀ x ∈ ns, Laid Z a0 C x.1 x.2.1 x.2.2) (hd : ns.map (fun x => (parseFieldDescriptor x.2.2).map defaultValue) = vs.map some) (hnm : ns.Pairwise (fun x y => x.2.1 ≠ y.2.1)) : OView Z n0 h' ((h.size, Sum.inl (C, ns, vs)) :: os) := by
  have hs : ∀ x ∈ ns, (parseFieldDescriptor x.2.2).isSome = true := fun x hx => by
    have h1 : (parseFieldDescriptor x.2.2).map defaultValue ∈ vs.map some := hd ▸ List.mem_map.mpr ⟨x, hx, rfl⟩
    obtain ⟨w, -, h2⟩ := List.mem_map.mp h1
    cases hp : parseFieldDescriptor x.2.2 with
    | none => rw [hp] at h2; cases h2
    | some t => rfl
  refine V.cons hn E A.lt (OHold.obj A (own_pair hL hs hnm) fun j k w e1 e2 => ?_)
  have h1 : (ns.map (fun x => (parseFieldDescriptor x.2.2).map defaultValue))[j]? = some ((parseFieldDescriptor k.2.2).map defaultValue) := by rw [List.getElem?_map, e1]; rfl
  have h2 : (vs.map some)[j]? = some (some w) := by rw [List.getElem?_map, e2]; rfl
  rw [hd, h2] at h1
  have h3 := Option.some.inj h1
  cases hp : parseFieldDescriptor k.2.2 with
  | none => rw [hp] at h3; cases h3
  | some t =>
    rw [hp] at h3
    cases Option.some.inj h3
    exact D (hL k (List.mem_of_getElem? e1)) hp
/-- a fresh array -/
theorem OView.newArr (V : OView Z n0 h os) (hn : n0 ≤ h.size) (E : Ext h h') {cA : ClassId} {z : Int32} (A : Arr Z h' h.size (newA cA ty z) ty) (k : Nat) (hk : z.toNatClampNeg = k) : OView Z n0 h' ((h.size, Sum.inr (ty, List.replicate k (defaultValue ty))) :: os) := by
  refine V.cons hn E A.lt (OHold.arr A ?_)
  rw [← hk]; simp [newA]
theorem own_inb {cl : Cell} {vs : List Value} (hs : cl.slots.toList = vs) {j : Int32} (k : Nat) (hj : j.toInt = (k : Int)) (hk : k < vs.length) : ¬ (j < 0 ∨ cl.slots.size ≤ j.toNatClampNeg) := by
  have h1 : cl.slots.size = vs.length := by rw [← hs]; simp
  have e0 : (0 : Int32).toInt = 0 := rfl
  rw [h1]
  simp only [Int32.lt_iff_toInt_lt, Int32.toNatClampNeg, hj, e0]
  omega
theorem own_clamp {j : Int32} (k : Nat) (hj : j.toInt = (k : Int)) : j.toNatClampNeg = k := by simp only [Int32.toNatClampNeg, hj]; omega
theorem own_get {cl : Cell} {vs : List Value} (hs : cl.slots.toList = vs) {j : Int32} (k : Nat) (hj : j.toInt = (k : Int)) {v : Value} (hv : vs[k]? = some v) : cl.slots[j.toNatClampNeg]? = some v := by
  rw [own_clamp k hj, ← Array.getElem?_toList, hs]; exact hv
theorem own_wr {vs : List Value} {j : Int32} (k : Nat) (hj : j.toInt = (k : Int)) (W : Wr h h' a j.toNatClampNeg v) : Wr h h' a k v := by rw [own_clamp k hj] at W; exact W
theorem own_len {cl : Cell} {vs : List Value} (hs : cl.slots.toList = vs) : cl.slots.size = vs.length := by rw [← hs]; simp
end OwnKit
def f_isChar_58 (p0 : Int32) : Int32 := (0 : Int32)
def f_isChar_54 (p0 : Int32) : Int32 := (1 : Int32)
def f_isChar_42 (p0 : Int32) : Int32 := (if p0 < (65536 : Int32) then f_isChar_58 p0 else (if (1114111 : Int32) < p0 then f_isChar_58 p0 else f_isChar_54 p0))
def f_isChar_30 (p0 : Int32) : Int32 := (if p0 < (57344 : Int32) then f_isChar_42 p0 else (if (65533 : Int32) < p0 then f_isChar_42 p0 else f_isChar_54 p0))
def f_isChar (p0 : Int32) : Int32 := (if p0 = (9 : Int32) then f_isChar_54 p0 else (if p0 = (10 : Int32) then f_isChar_54 p0 else (if p0 = (13 : Int32) then f_isChar_54 p0 else (if p0 < (32 : Int32) then f_isChar_30 p0 else (if (55295 : Int32) < p0 then f_isChar_30 p0 else f_isChar_54 p0)))))
theorem d62m2_58 : decode prog_62_method_2_code 58 = .ok (.iconst 0, 1) := by decide +kernel
theorem d62m2_59 : decode prog_62_method_2_code 59 = .ok (.ireturn, 1) := by decide +kernel
theorem d62m2_54 : decode prog_62_method_2_code 54 = .ok (.iconst 1, 1) := by decide +kernel
theorem d62m2_55 : decode prog_62_method_2_code 55 = .ok (.goto 4, 3) := by decide +kernel
theorem d62m2_42 : decode prog_62_method_2_code 42 = .ok (.iload_n 0, 1) := by decide +kernel
theorem d62m2_43 : decode prog_62_method_2_code 43 = .ok (.ldc 10, 2) := by decide +kernel
theorem d62m2_45 : decode prog_62_method_2_code 45 = .ok (.if_icmp .lt 13, 3) := by decide +kernel
theorem d62m2_48 : decode prog_62_method_2_code 48 = .ok (.iload_n 0, 1) := by decide +kernel
theorem d62m2_49 : decode prog_62_method_2_code 49 = .ok (.ldc 11, 2) := by decide +kernel
theorem d62m2_51 : decode prog_62_method_2_code 51 = .ok (.if_icmp .gt 7, 3) := by decide +kernel
theorem d62m2_30 : decode prog_62_method_2_code 30 = .ok (.iload_n 0, 1) := by decide +kernel
theorem d62m2_31 : decode prog_62_method_2_code 31 = .ok (.ldc 8, 2) := by decide +kernel
theorem d62m2_33 : decode prog_62_method_2_code 33 = .ok (.if_icmp .lt 9, 3) := by decide +kernel
theorem d62m2_36 : decode prog_62_method_2_code 36 = .ok (.iload_n 0, 1) := by decide +kernel
theorem d62m2_37 : decode prog_62_method_2_code 37 = .ok (.ldc 9, 2) := by decide +kernel
theorem d62m2_39 : decode prog_62_method_2_code 39 = .ok (.if_icmp .le 15, 3) := by decide +kernel
theorem pn_0 : plainName "com/example/guarded_expansion/guardedexpansion/XmlChars" = true := by first | (simp [plainName, overriddenIn]; done) | decide +kernel
theorem d62m2_0 : decode prog_62_method_2_code 0 = .ok (.iload_n 0, 1) := by decide +kernel
theorem d62m2_1 : decode prog_62_method_2_code 1 = .ok (.bipush 9, 2) := by decide +kernel
theorem d62m2_3 : decode prog_62_method_2_code 3 = .ok (.if_icmp .eq 51, 3) := by decide +kernel
theorem d62m2_6 : decode prog_62_method_2_code 6 = .ok (.iload_n 0, 1) := by decide +kernel
theorem d62m2_7 : decode prog_62_method_2_code 7 = .ok (.bipush 10, 2) := by decide +kernel
theorem d62m2_9 : decode prog_62_method_2_code 9 = .ok (.if_icmp .eq 45, 3) := by decide +kernel
theorem d62m2_12 : decode prog_62_method_2_code 12 = .ok (.iload_n 0, 1) := by decide +kernel
theorem d62m2_13 : decode prog_62_method_2_code 13 = .ok (.bipush 13, 2) := by decide +kernel
theorem d62m2_15 : decode prog_62_method_2_code 15 = .ok (.if_icmp .eq 39, 3) := by decide +kernel
theorem d62m2_18 : decode prog_62_method_2_code 18 = .ok (.iload_n 0, 1) := by decide +kernel
theorem d62m2_19 : decode prog_62_method_2_code 19 = .ok (.bipush 32, 2) := by decide +kernel
theorem d62m2_21 : decode prog_62_method_2_code 21 = .ok (.if_icmp .lt 9, 3) := by decide +kernel
theorem d62m2_24 : decode prog_62_method_2_code 24 = .ok (.iload_n 0, 1) := by decide +kernel
theorem d62m2_25 : decode prog_62_method_2_code 25 = .ok (.ldc 7, 2) := by decide +kernel
theorem d62m2_27 : decode prog_62_method_2_code 27 = .ok (.if_icmp .le 27, 3) := by decide +kernel
theorem ef_isChar (m : MethodId) (x0 : Int32) : entryFrame m #[(.int x0)] 1 = mkF m 0 #[.val (.int x0)] [] := by first | (simp [entryFrame, mkF, argsToLocals, Value.category]; done) | rfl
def Q_isChar (Z : State) (p0 : Int32) (h0 : Heap) (n0 : Nat) (v : Option Value) (h : Heap) (L : List Loc) : Prop := v = some (.int (f_isChar p0)) ∧ L = [] ∧ h = h0
set_option maxRecDepth 65536 in
set_option maxHeartbeats 40000000 in
theorem rm_isChar (l : Launch) (Z : State) (a0 : Array Value) (hw : ∀ d ∈ tables_1, d.before a0 Z = true) (ws : List Jvm.Cond) (p0 : Int32) (h0 : Heap) (n0 : Nat) (Z0 : n0 ≤ h0.size) :
    MetFree l (⟨"com/example/guarded_expansion/guardedexpansion/XmlChars", "isChar", "(I)Z"⟩ : MethodName) (head1 (Jvm.Cond.code (⟨"com/example/guarded_expansion/guardedexpansion/XmlChars", "isChar", "(I)Z"⟩ : MethodName) prog_62_method_2_code 1 (some .boolean) :: ws) ({ frames := 0, cells := 0, slots := 0, locals := 0 } : Room)) (fun a_ U => a_ = #[(.int p0)] ∧ Z.Warmed39 U.vm ∧ U.heap = h0) (fun _ _ _ _ _ => True) (fun _ U o U' => ∃ v L, o = .returned v ∧ Q_isChar Z p0 h0 n0 v U'.heap L ∧ FrameEnd U o U' L ({ frames := 0, cells := 0, slots := 0, locals := 0 } : Room).cells ({ frames := 0, cells := 0, slots := 0, locals := 0 } : Room).slots) := by
  refine MetFree.of_bodySF (plainFor_of_name pn_0) hisR ?_
  intro p e s m args below meth c s₁ Bd hml0 hP hK
  obtain ⟨rfl, hZ, hh⟩ := hP
  have hx := Bd.exec
  have hby := Bd.bytes
  have hlk : meth.locks = false := Bd.notSynchronized
  have hml : c.maxLocals = 1 := hml0
  have hown : s.vm.findClass "com/example/guarded_expansion/guardedexpansion/XmlChars" = some m.cls := findClass_of_methodNamed Bd.named
  have hnm := (name_of_methodNamed Bd.named Bd.method).1
  have X0 : Stand p l e ({ frames := 0, cells := 0, slots := 0, locals := 0 } : Room) s m #[(.int p0)] below meth c s₁ [] 0 0 := Stand.of_body Bd
  have e0 : s₁.heap = h0 := by rw [← hh, Bd.state]; rfl
  have N0 := Fr.nil n0
  have J58 : ∀ (T : State), Stand p l e ({ frames := 0, cells := 0, slots := 0, locals := 0 } : Room) s m #[(.int p0)] below meth c T [] 0 0 → T.heap = h0 → f_isChar p0 = f_isChar_58 p0 → OGets p e below (OLeaves s (Q_isChar Z p0 h0 n0 ) ({ frames := 0, cells := 0, slots := 0, locals := 0 } : Room).cells ({ frames := 0, cells := 0, slots := 0, locals := 0 } : Room).slots) (T.setTop (mkF m 58 #[.val (.int p0)] [])) := by
    intro T X eT hv'
    have hv : f_isChar p0 = (0 : Int32) := hv'
    show OGets p e below _ (T.setTop (mkF m 58 #[.val (.int p0)] []))
    refine OGets.step (fun _ => XS.iconst X.here hx rfl (hb hby d62m2_58)) ?_
    show OGets p e below _ (T.setTop (mkF m 59 #[.val (.int p0)] [(.int (0 : Int32))]))
    refine OGets.retN X hx hlk (t := .boolean) Bd.returns (by simp) (hb hby d62m2_59) (Nat.le_of_ble_eq_true rfl) (Nat.le_of_ble_eq_true rfl) ?_
    exact ⟨congrArg (fun z => some (Value.int z)) hv.symm, rfl, eT⟩
  have J54 : ∀ (T : State), Stand p l e ({ frames := 0, cells := 0, slots := 0, locals := 0 } : Room) s m #[(.int p0)] below meth c T [] 0 0 → T.heap = h0 → f_isChar p0 = f_isChar_54 p0 → OGets p e below (OLeaves s (Q_isChar Z p0 h0 n0 ) ({ frames := 0, cells := 0, slots := 0, locals := 0 } : Room).cells ({ frames := 0, cells := 0, slots := 0, locals := 0 } : Room).slots) (T.setTop (mkF m 54 #[.val (.int p0)] [])) := by
    intro T X eT hv'
    have hv : f_isChar p0 = (1 : Int32) := hv'
    show OGets p e below _ (T.setTop (mkF m 54 #[.val (.int p0)] []))
    refine OGets.step (fun _ => XS.iconst X.here hx rfl (hb hby d62m2_54)) ?_
    show OGets p e below _ (T.setTop (mkF m 55 #[.val (.int p0)] [(.int (1 : Int32))]))
    refine OGets.step (fun _ => XS.goto X.here hx rfl (pc0 := 55) (pc' := 59) rfl (hb hby d62m2_55) (by decide) (by decide)) ?_
    show OGets p e below _ (T.setTop (mkF m 59 #[.val (.int p0)] [(.int (1 : Int32))]))
    refine OGets.retN X hx hlk (t := .boolean) Bd.returns (by simp) (hb hby d62m2_59) (Nat.le_of_ble_eq_true rfl) (Nat.le_of_ble_eq_true rfl) ?_
    exact ⟨congrArg (fun z => some (Value.int z)) hv.symm, rfl, eT⟩
  have J42 : ∀ (T : State), Stand p l e ({ frames := 0, cells := 0, slots := 0, locals := 0 } : Room) s m #[(.int p0)] below meth c T [] 0 0 → T.heap = h0 → f_isChar p0 = f_isChar_42 p0 → OGets p e below (OLeaves s (Q_isChar Z p0 h0 n0 ) ({ frames := 0, cells := 0, slots := 0, locals := 0 } : Room).cells ({ frames := 0, cells := 0, slots := 0, locals := 0 } : Room).slots) (T.setTop (mkF m 42 #[.val (.int p0)] [])) := by
    intro T X eT hv'
    have hv : f_isChar p0 = (if p0 < (65536 : Int32) then f_isChar_58 p0 else (if (1114111 : Int32) < p0 then f_isChar_58 p0 else f_isChar_54 p0)) := hv'
    show OGets p e below _ (T.setTop (mkF m 42 #[.val (.int p0)] []))
    refine OGets.step (fun _ => XS.iloadN X.here hx rfl (hb hby d62m2_42) rfl) ?_
    show OGets p e below _ (T.setTop (mkF m 43 #[.val (.int p0)] [(.int p0)]))
    refine OGets.step (fun _ => X.ldcInt hx hown (mvT hZ (hw _ (List.mem_of_getElem? (i := 18) rfl))) (g := (mkF m 43 #[.val (.int p0)] [(.int p0)])) rfl (hb hby d62m2_43) _) ?_
    show OGets p e below _ (T.setTop (mkF m 45 #[.val (.int p0)] [(.int (65536 : Int32)), (.int p0)]))
    by_cases hc45_1 : p0 < (65536 : Int32)
    · refine OGets.step (fun _ => XS.icmpYes X.here hx rfl (pc0 := 45) (pc' := 58) rfl (hb hby d62m2_45) rfl (tlt hc45_1).1 (by decide) (by decide)) ?_
      have hv2 := hv.trans (if_pos hc45_1)
      show OGets p e below _ (T.setTop (mkF m 58 #[.val (.int p0)] []))
      exact J58 T X eT hv2
    · refine OGets.step (fun _ => XS.icmpNo X.here hx rfl (hb hby d62m2_45) rfl (flt hc45_1).1) ?_
      have hv3 := hv.trans (if_neg hc45_1)
      show OGets p e below _ (T.setTop (mkF m 48 #[.val (.int p0)] []))
      refine OGets.step (fun _ => XS.iloadN X.here hx rfl (hb hby d62m2_48) rfl) ?_
      show OGets p e below _ (T.setTop (mkF m 49 #[.val (.int p0)] [(.int p0)]))
      refine OGets.step (fun _ => X.ldcInt hx hown (mvT hZ (hw _ (List.mem_of_getElem? (i := 25) rfl))) (g := (mkF m 49 #[.val (.int p0)] [(.int p0)])) rfl (hb hby d62m2_49) _) ?_
      show OGets p e below _ (T.setTop (mkF m 51 #[.val (.int p0)] [(.int (1114111 : Int32)), (.int p0)]))
      by_cases hc51_4 : (1114111 : Int32) < p0
      · refine OGets.step (fun _ => XS.icmpYes X.here hx rfl (pc0 := 51) (pc' := 58) rfl (hb hby d62m2_51) rfl (tlt hc51_4).2.2.1 (by decide) (by decide)) ?_
        have hv5 := hv3.trans (if_pos hc51_4)
        show OGets p e below _ (T.setTop (mkF m 58 #[.val (.int p0)] []))
        exact J58 T X eT hv5
      · refine OGets.step (fun _ => XS.icmpNo X.here hx rfl (hb hby d62m2_51) rfl (flt hc51_4).2.2.1) ?_
        have hv6 := hv3.trans (if_neg hc51_4)
        show OGets p e below _ (T.setTop (mkF m 54 #[.val (.int p0)] []))
        exact J54 T X eT hv6
  have J30 : ∀ (T : State), Stand p l e ({ frames := 0, cells := 0, slots := 0, locals := 0 } : Room) s m #[(.int p0)] below meth c T [] 0 0 → T.heap = h0 → f_isChar p0 = f_isChar_30 p0 → OGets p e below (OLeaves s (Q_isChar Z p0 h0 n0 ) ({ frames := 0, cells := 0, slots := 0, locals := 0 } : Room).cells ({ frames := 0, cells := 0, slots := 0, locals := 0 } : Room).slots) (T.setTop (mkF m 30 #[.val (.int p0)] [])) := by
    intro T X eT hv'
    have hv : f_isChar p0 = (if p0 < (57344 : Int32) then f_isChar_42 p0 else (if (65533 : Int32) < p0 then f_isChar_42 p0 else f_isChar_54 p0)) := hv'
    show OGets p e below _ (T.setTop (mkF m 30 #[.val (.int p0)] []))
    refine OGets.step (fun _ => XS.iloadN X.here hx rfl (hb hby d62m2_30) rfl) ?_
    show OGets p e below _ (T.setTop (mkF m 31 #[.val (.int p0)] [(.int p0)]))
    refine OGets.step (fun _ => X.ldcInt hx hown (mvT hZ (hw _ (List.mem_of_getElem? (i := 17) rfl))) (g := (mkF m 31 #[.val (.int p0)] [(.int p0)])) rfl (hb hby d62m2_31) _) ?_
    show OGets p e below _ (T.setTop (mkF m 33 #[.val (.int p0)] [(.int (57344 : Int32)), (.int p0)]))
    by_cases hc33_7 : p0 < (57344 : Int32)
    · refine OGets.step (fun _ => XS.icmpYes X.here hx rfl (pc0 := 33) (pc' := 42) rfl (hb hby d62m2_33) rfl (tlt hc33_7).1 (by decide) (by decide)) ?_
      have hv8 := hv.trans (if_pos hc33_7)
      show OGets p e below _ (T.setTop (mkF m 42 #[.val (.int p0)] []))
      exact J42 T X eT hv8
    · refine OGets.step (fun _ => XS.icmpNo X.here hx rfl (hb hby d62m2_33) rfl (flt hc33_7).1) ?_
      have hv9 := hv.trans (if_neg hc33_7)
      show OGets p e below _ (T.setTop (mkF m 36 #[.val (.int p0)] []))
      refine OGets.step (fun _ => XS.iloadN X.here hx rfl (hb hby d62m2_36) rfl) ?_
      show OGets p e below _ (T.setTop (mkF m 37 #[.val (.int p0)] [(.int p0)]))
      refine OGets.step (fun _ => X.ldcInt hx hown (mvT hZ (hw _ (List.mem_of_getElem? (i := 24) rfl))) (g := (mkF m 37 #[.val (.int p0)] [(.int p0)])) rfl (hb hby d62m2_37) _) ?_
      show OGets p e below _ (T.setTop (mkF m 39 #[.val (.int p0)] [(.int (65533 : Int32)), (.int p0)]))
      by_cases hc39_10 : (65533 : Int32) < p0
      · refine OGets.step (fun _ => XS.icmpNo X.here hx rfl (hb hby d62m2_39) rfl (tlt hc39_10).2.2.2) ?_
        have hv11 := hv9.trans (if_pos hc39_10)
        show OGets p e below _ (T.setTop (mkF m 42 #[.val (.int p0)] []))
        exact J42 T X eT hv11
      · refine OGets.step (fun _ => XS.icmpYes X.here hx rfl (pc0 := 39) (pc' := 54) rfl (hb hby d62m2_39) rfl (flt hc39_10).2.2.2 (by decide) (by decide)) ?_
        have hv12 := hv9.trans (if_neg hc39_10)
        show OGets p e below _ (T.setTop (mkF m 54 #[.val (.int p0)] []))
        exact J54 T X eT hv12
  have hv0 : f_isChar p0 = (if p0 = (9 : Int32) then f_isChar_54 p0 else (if p0 = (10 : Int32) then f_isChar_54 p0 else (if p0 = (13 : Int32) then f_isChar_54 p0 else (if p0 < (32 : Int32) then f_isChar_30 p0 else (if (55295 : Int32) < p0 then f_isChar_30 p0 else f_isChar_54 p0))))) := rfl
  show OGets p e below (OLeaves s (Q_isChar Z p0 h0 n0 ) ({ frames := 0, cells := 0, slots := 0, locals := 0 } : Room).cells ({ frames := 0, cells := 0, slots := 0, locals := 0 } : Room).slots) _
  refine OGets.enter (ef_isChar m p0) ?_
  show OGets p e below _ (s₁.setTop (mkF m 0 #[.val (.int p0)] []))
  refine OGets.step (fun _ => XS.iloadN X0.here hx rfl (hb hby d62m2_0) rfl) ?_
  show OGets p e below _ (s₁.setTop (mkF m 1 #[.val (.int p0)] [(.int p0)]))
  refine OGets.step (fun _ => XS.bipush X0.here hx rfl (hb hby d62m2_1)) ?_
  show OGets p e below _ (s₁.setTop (mkF m 3 #[.val (.int p0)] [(.int (9 : Int32)), (.int p0)]))
  by_cases hc3_13 : p0 = (9 : Int32)
  · refine OGets.step (fun _ => XS.icmpYes X0.here hx rfl (pc0 := 3) (pc' := 54) rfl (hb hby d62m2_3) rfl (teq hc3_13).1 (by decide) (by decide)) ?_
    have hv14 := hv0.trans (if_pos hc3_13)
    show OGets p e below _ (s₁.setTop (mkF m 54 #[.val (.int p0)] []))
    exact J54 s₁ X0 e0 hv14
  · refine OGets.step (fun _ => XS.icmpNo X0.here hx rfl (hb hby d62m2_3) rfl (feq hc3_13).1) ?_
    have hv15 := hv0.trans (if_neg hc3_13)
    show OGets p e below _ (s₁.setTop (mkF m 6 #[.val (.int p0)] []))
    refine OGets.step (fun _ => XS.iloadN X0.here hx rfl (hb hby d62m2_6) rfl) ?_
    show OGets p e below _ (s₁.setTop (mkF m 7 #[.val (.int p0)] [(.int p0)]))
    refine OGets.step (fun _ => XS.bipush X0.here hx rfl (hb hby d62m2_7)) ?_
    show OGets p e below _ (s₁.setTop (mkF m 9 #[.val (.int p0)] [(.int (10 : Int32)), (.int p0)]))
    by_cases hc9_16 : p0 = (10 : Int32)
    · refine OGets.step (fun _ => XS.icmpYes X0.here hx rfl (pc0 := 9) (pc' := 54) rfl (hb hby d62m2_9) rfl (teq hc9_16).1 (by decide) (by decide)) ?_
      have hv17 := hv15.trans (if_pos hc9_16)
      show OGets p e below _ (s₁.setTop (mkF m 54 #[.val (.int p0)] []))
      exact J54 s₁ X0 e0 hv17
    · refine OGets.step (fun _ => XS.icmpNo X0.here hx rfl (hb hby d62m2_9) rfl (feq hc9_16).1) ?_
      have hv18 := hv15.trans (if_neg hc9_16)
      show OGets p e below _ (s₁.setTop (mkF m 12 #[.val (.int p0)] []))
      refine OGets.step (fun _ => XS.iloadN X0.here hx rfl (hb hby d62m2_12) rfl) ?_
      show OGets p e below _ (s₁.setTop (mkF m 13 #[.val (.int p0)] [(.int p0)]))
      refine OGets.step (fun _ => XS.bipush X0.here hx rfl (hb hby d62m2_13)) ?_
      show OGets p e below _ (s₁.setTop (mkF m 15 #[.val (.int p0)] [(.int (13 : Int32)), (.int p0)]))
      by_cases hc15_19 : p0 = (13 : Int32)
      · refine OGets.step (fun _ => XS.icmpYes X0.here hx rfl (pc0 := 15) (pc' := 54) rfl (hb hby d62m2_15) rfl (teq hc15_19).1 (by decide) (by decide)) ?_
        have hv20 := hv18.trans (if_pos hc15_19)
        show OGets p e below _ (s₁.setTop (mkF m 54 #[.val (.int p0)] []))
        exact J54 s₁ X0 e0 hv20
      · refine OGets.step (fun _ => XS.icmpNo X0.here hx rfl (hb hby d62m2_15) rfl (feq hc15_19).1) ?_
        have hv21 := hv18.trans (if_neg hc15_19)
        show OGets p e below _ (s₁.setTop (mkF m 18 #[.val (.int p0)] []))
        refine OGets.step (fun _ => XS.iloadN X0.here hx rfl (hb hby d62m2_18) rfl) ?_
        show OGets p e below _ (s₁.setTop (mkF m 19 #[.val (.int p0)] [(.int p0)]))
        refine OGets.step (fun _ => XS.bipush X0.here hx rfl (hb hby d62m2_19)) ?_
        show OGets p e below _ (s₁.setTop (mkF m 21 #[.val (.int p0)] [(.int (32 : Int32)), (.int p0)]))
        by_cases hc21_22 : p0 < (32 : Int32)
        · refine OGets.step (fun _ => XS.icmpYes X0.here hx rfl (pc0 := 21) (pc' := 30) rfl (hb hby d62m2_21) rfl (tlt hc21_22).1 (by decide) (by decide)) ?_
          have hv23 := hv21.trans (if_pos hc21_22)
          show OGets p e below _ (s₁.setTop (mkF m 30 #[.val (.int p0)] []))
          exact J30 s₁ X0 e0 hv23
        · refine OGets.step (fun _ => XS.icmpNo X0.here hx rfl (hb hby d62m2_21) rfl (flt hc21_22).1) ?_
          have hv24 := hv21.trans (if_neg hc21_22)
          show OGets p e below _ (s₁.setTop (mkF m 24 #[.val (.int p0)] []))
          refine OGets.step (fun _ => XS.iloadN X0.here hx rfl (hb hby d62m2_24) rfl) ?_
          show OGets p e below _ (s₁.setTop (mkF m 25 #[.val (.int p0)] [(.int p0)]))
          refine OGets.step (fun _ => X0.ldcInt hx hown (mvT hZ (hw _ (List.mem_of_getElem? (i := 23) rfl))) (g := (mkF m 25 #[.val (.int p0)] [(.int p0)])) rfl (hb hby d62m2_25) _) ?_
          show OGets p e below _ (s₁.setTop (mkF m 27 #[.val (.int p0)] [(.int (55295 : Int32)), (.int p0)]))
          by_cases hc27_25 : (55295 : Int32) < p0
          · refine OGets.step (fun _ => XS.icmpNo X0.here hx rfl (hb hby d62m2_27) rfl (tlt hc27_25).2.2.2) ?_
            have hv26 := hv24.trans (if_pos hc27_25)
            show OGets p e below _ (s₁.setTop (mkF m 30 #[.val (.int p0)] []))
            exact J30 s₁ X0 e0 hv26
          · refine OGets.step (fun _ => XS.icmpYes X0.here hx rfl (pc0 := 27) (pc' := 54) rfl (hb hby d62m2_27) rfl (flt hc27_25).2.2.2 (by decide) (by decide)) ?_
            have hv27 := hv24.trans (if_neg hc27_25)
            show OGets p e below _ (s₁.setTop (mkF m 54 #[.val (.int p0)] []))
            exact J54 s₁ X0 e0 hv27
def f_refc_72 (p0 : Int32) : Int32 := (0 : Int32)
def f_refc_56 (p0 : Int32) : Int32 := (if p0 = (65534 : Int32) then f_refc_72 p0 else (if p0 = (65535 : Int32) then f_refc_72 p0 else (1 : Int32)))
def f_refc_36 (p0 : Int32) : Int32 := (1 : Int32)
def f_refc_10 (p0 : Int32) : Int32 := (0 : Int32)
def f_refc (p0 : Int32) : Int32 := (if p0 < (0 : Int32) then f_refc_10 p0 else (if (1114111 : Int32) < p0 then f_refc_10 p0 else (if p0 < (32 : Int32) then (if p0 = (9 : Int32) then f_refc_36 p0 else (if p0 = (10 : Int32) then f_refc_36 p0 else (if p0 = (13 : Int32) then f_refc_36 p0 else (0 : Int32)))) else (if p0 < (55296 : Int32) then f_refc_56 p0 else (if (57343 : Int32) < p0 then f_refc_56 p0 else (0 : Int32))))))
theorem dm2_72 : decode method_2_code 72 = .ok (.iconst 0, 1) := by decide +kernel
theorem dm2_73 : decode method_2_code 73 = .ok (.ireturn, 1) := by decide +kernel
theorem dm2_56 : decode method_2_code 56 = .ok (.iload_n 0, 1) := by decide +kernel
theorem dm2_57 : decode method_2_code 57 = .ok (.ldc 10, 2) := by decide +kernel
theorem dm2_59 : decode method_2_code 59 = .ok (.if_icmp .eq 13, 3) := by decide +kernel
theorem dm2_62 : decode method_2_code 62 = .ok (.iload_n 0, 1) := by decide +kernel
theorem dm2_63 : decode method_2_code 63 = .ok (.ldc 11, 2) := by decide +kernel
theorem dm2_65 : decode method_2_code 65 = .ok (.if_icmp .eq 7, 3) := by decide +kernel
theorem dm2_68 : decode method_2_code 68 = .ok (.iconst 1, 1) := by decide +kernel
theorem dm2_69 : decode method_2_code 69 = .ok (.goto 4, 3) := by decide +kernel
theorem dm2_36 : decode method_2_code 36 = .ok (.iconst 1, 1) := by decide +kernel
theorem dm2_37 : decode method_2_code 37 = .ok (.goto 4, 3) := by decide +kernel
theorem dm2_41 : decode method_2_code 41 = .ok (.ireturn, 1) := by decide +kernel
theorem dm2_10 : decode method_2_code 10 = .ok (.iconst 0, 1) := by decide +kernel
theorem dm2_11 : decode method_2_code 11 = .ok (.ireturn, 1) := by decide +kernel
theorem pn_1 : plainName "com/example/guarded_expansion/guardedexpansion/XmlCharsIsCharPinLaw" = true := by first | (simp [plainName, overriddenIn]; done) | decide +kernel
theorem dm2_0 : decode method_2_code 0 = .ok (.iload_n 0, 1) := by decide +kernel
theorem dm2_1 : decode method_2_code 1 = .ok (.ifCond .lt 9, 3) := by decide +kernel
theorem dm2_4 : decode method_2_code 4 = .ok (.iload_n 0, 1) := by decide +kernel
theorem dm2_5 : decode method_2_code 5 = .ok (.ldc 7, 2) := by decide +kernel
theorem dm2_7 : decode method_2_code 7 = .ok (.if_icmp .le 5, 3) := by decide +kernel
theorem dm2_12 : decode method_2_code 12 = .ok (.iload_n 0, 1) := by decide +kernel
theorem dm2_13 : decode method_2_code 13 = .ok (.bipush 32, 2) := by decide +kernel
theorem dm2_15 : decode method_2_code 15 = .ok (.if_icmp .ge 27, 3) := by decide +kernel
theorem dm2_18 : decode method_2_code 18 = .ok (.iload_n 0, 1) := by decide +kernel
theorem dm2_19 : decode method_2_code 19 = .ok (.bipush 9, 2) := by decide +kernel
theorem dm2_21 : decode method_2_code 21 = .ok (.if_icmp .eq 15, 3) := by decide +kernel
theorem dm2_24 : decode method_2_code 24 = .ok (.iload_n 0, 1) := by decide +kernel
theorem dm2_25 : decode method_2_code 25 = .ok (.bipush 10, 2) := by decide +kernel
theorem dm2_27 : decode method_2_code 27 = .ok (.if_icmp .eq 9, 3) := by decide +kernel
theorem dm2_30 : decode method_2_code 30 = .ok (.iload_n 0, 1) := by decide +kernel
theorem dm2_31 : decode method_2_code 31 = .ok (.bipush 13, 2) := by decide +kernel
theorem dm2_33 : decode method_2_code 33 = .ok (.if_icmp .ne 7, 3) := by decide +kernel
theorem dm2_40 : decode method_2_code 40 = .ok (.iconst 0, 1) := by decide +kernel
theorem dm2_42 : decode method_2_code 42 = .ok (.iload_n 0, 1) := by decide +kernel
theorem dm2_43 : decode method_2_code 43 = .ok (.ldc 8, 2) := by decide +kernel
theorem dm2_45 : decode method_2_code 45 = .ok (.if_icmp .lt 11, 3) := by decide +kernel
theorem dm2_48 : decode method_2_code 48 = .ok (.iload_n 0, 1) := by decide +kernel
theorem dm2_49 : decode method_2_code 49 = .ok (.ldc 9, 2) := by decide +kernel
theorem dm2_51 : decode method_2_code 51 = .ok (.if_icmp .gt 5, 3) := by decide +kernel
theorem dm2_54 : decode method_2_code 54 = .ok (.iconst 0, 1) := by decide +kernel
theorem dm2_55 : decode method_2_code 55 = .ok (.ireturn, 1) := by decide +kernel
theorem ef_refc (m : MethodId) (x0 : Int32) : entryFrame m #[(.int x0)] 1 = mkF m 0 #[.val (.int x0)] [] := by first | (simp [entryFrame, mkF, argsToLocals, Value.category]; done) | rfl
def Q_refc (Z : State) (p0 : Int32) (h0 : Heap) (n0 : Nat) (v : Option Value) (h : Heap) (L : List Loc) : Prop := v = some (.int (f_refc p0)) ∧ L = [] ∧ h = h0
set_option maxRecDepth 65536 in
set_option maxHeartbeats 40000000 in
theorem rm_refc (l : Launch) (Z : State) (a0 : Array Value) (hw : ∀ d ∈ tables_1, d.before a0 Z = true) (ws : List Jvm.Cond) (p0 : Int32) (h0 : Heap) (n0 : Nat) (Z0 : n0 ≤ h0.size) :
    MetFree l (⟨"com/example/guarded_expansion/guardedexpansion/XmlCharsIsCharPinLaw", "ref", "(I)Z"⟩ : MethodName) (head1 (Jvm.Cond.code (⟨"com/example/guarded_expansion/guardedexpansion/XmlCharsIsCharPinLaw", "ref", "(I)Z"⟩ : MethodName) method_2_code 1 (some .boolean) :: ws) ({ frames := 0, cells := 0, slots := 0, locals := 0 } : Room)) (fun a_ U => a_ = #[(.int p0)] ∧ Z.Warmed39 U.vm ∧ U.heap = h0) (fun _ _ _ _ _ => True) (fun _ U o U' => ∃ v L, o = .returned v ∧ Q_refc Z p0 h0 n0 v U'.heap L ∧ FrameEnd U o U' L ({ frames := 0, cells := 0, slots := 0, locals := 0 } : Room).cells ({ frames := 0, cells := 0, slots := 0, locals := 0 } : Room).slots) := by
  refine MetFree.of_bodySF (plainFor_of_name pn_1) hisR ?_
  intro p e s m args below meth c s₁ Bd hml0 hP hK
  obtain ⟨rfl, hZ, hh⟩ := hP
  have hx := Bd.exec
  have hby := Bd.bytes
  have hlk : meth.locks = false := Bd.notSynchronized
  have hml : c.maxLocals = 1 := hml0
  have hown : s.vm.findClass "com/example/guarded_expansion/guardedexpansion/XmlCharsIsCharPinLaw" = some m.cls := findClass_of_methodNamed Bd.named
  have hnm := (name_of_methodNamed Bd.named Bd.method).1
  have X0 : Stand p l e ({ frames := 0, cells := 0, slots := 0, locals := 0 } : Room) s m #[(.int p0)] below meth c s₁ [] 0 0 := Stand.of_body Bd
  have e0 : s₁.heap = h0 := by rw [← hh, Bd.state]; rfl
  have N0 := Fr.nil n0
  have J72 : ∀ (T : State), Stand p l e ({ frames := 0, cells := 0, slots := 0, locals := 0 } : Room) s m #[(.int p0)] below meth c T [] 0 0 → T.heap = h0 → f_refc p0 = f_refc_72 p0 → OGets p e below (OLeaves s (Q_refc Z p0 h0 n0 ) ({ frames := 0, cells := 0, slots := 0, locals := 0 } : Room).cells ({ frames := 0, cells := 0, slots := 0, locals := 0 } : Room).slots) (T.setTop (mkF m 72 #[.val (.int p0)] [])) := by
    intro T X eT hv'
    have hv : f_refc p0 = (0 : Int32) := hv'
    show OGets p e below _ (T.setTop (mkF m 72 #[.val (.int p0)] []))
    refine OGets.step (fun _ => XS.iconst X.here hx rfl (hb hby dm2_72)) ?_
    show OGets p e below _ (T.setTop (mkF m 73 #[.val (.int p0)] [(.int (0 : Int32))]))
    refine OGets.retN X hx hlk (t := .boolean) Bd.returns (by simp) (hb hby dm2_73) (Nat.le_of_ble_eq_true rfl) (Nat.le_of_ble_eq_true rfl) ?_
    exact ⟨congrArg (fun z => some (Value.int z)) hv.symm, rfl, eT⟩
  have J56 : ∀ (T : State), Stand p l e ({ frames := 0, cells := 0, slots := 0, locals := 0 } : Room) s m #[(.int p0)] below meth c T [] 0 0 → T.heap = h0 → f_refc p0 = f_refc_56 p0 → OGets p e below (OLeaves s (Q_refc Z p0 h0 n0 ) ({ frames := 0, cells := 0, slots := 0, locals := 0 } : Room).cells ({ frames := 0, cells := 0, slots := 0, locals := 0 } : Room).slots) (T.setTop (mkF m 56 #[.val (.int p0)] [])) := by
    intro T X eT hv'
    have hv : f_refc p0 = (if p0 = (65534 : Int32) then f_refc_72 p0 else (if p0 = (65535 : Int32) then f_refc_72 p0 else (1 : Int32))) := hv'
    show OGets p e below _ (T.setTop (mkF m 56 #[.val (.int p0)] []))
    refine OGets.step (fun _ => XS.iloadN X.here hx rfl (hb hby dm2_56) rfl) ?_
    show OGets p e below _ (T.setTop (mkF m 57 #[.val (.int p0)] [(.int p0)]))
    refine OGets.step (fun _ => X.ldcInt hx hown (mvT hZ (hw _ (List.mem_of_getElem? (i := 6) rfl))) (g := (mkF m 57 #[.val (.int p0)] [(.int p0)])) rfl (hb hby dm2_57) _) ?_
    show OGets p e below _ (T.setTop (mkF m 59 #[.val (.int p0)] [(.int (65534 : Int32)), (.int p0)]))
    by_cases hc59_28 : p0 = (65534 : Int32)
    · refine OGets.step (fun _ => XS.icmpYes X.here hx rfl (pc0 := 59) (pc' := 72) rfl (hb hby dm2_59) rfl (teq hc59_28).1 (by decide) (by decide)) ?_
      have hv29 := hv.trans (if_pos hc59_28)
      show OGets p e below _ (T.setTop (mkF m 72 #[.val (.int p0)] []))
      exact J72 T X eT hv29
    · refine OGets.step (fun _ => XS.icmpNo X.here hx rfl (hb hby dm2_59) rfl (feq hc59_28).1) ?_
      have hv30 := hv.trans (if_neg hc59_28)
      show OGets p e below _ (T.setTop (mkF m 62 #[.val (.int p0)] []))
      refine OGets.step (fun _ => XS.iloadN X.here hx rfl (hb hby dm2_62) rfl) ?_
      show OGets p e below _ (T.setTop (mkF m 63 #[.val (.int p0)] [(.int p0)]))
      refine OGets.step (fun _ => X.ldcInt hx hown (mvT hZ (hw _ (List.mem_of_getElem? (i := 7) rfl))) (g := (mkF m 63 #[.val (.int p0)] [(.int p0)])) rfl (hb hby dm2_63) _) ?_
      show OGets p e below _ (T.setTop (mkF m 65 #[.val (.int p0)] [(.int (65535 : Int32)), (.int p0)]))
      by_cases hc65_31 : p0 = (65535 : Int32)
      · refine OGets.step (fun _ => XS.icmpYes X.here hx rfl (pc0 := 65) (pc' := 72) rfl (hb hby dm2_65) rfl (teq hc65_31).1 (by decide) (by decide)) ?_
        have hv32 := hv30.trans (if_pos hc65_31)
        show OGets p e below _ (T.setTop (mkF m 72 #[.val (.int p0)] []))
        exact J72 T X eT hv32
      · refine OGets.step (fun _ => XS.icmpNo X.here hx rfl (hb hby dm2_65) rfl (feq hc65_31).1) ?_
        have hv33 := hv30.trans (if_neg hc65_31)
        show OGets p e below _ (T.setTop (mkF m 68 #[.val (.int p0)] []))
        refine OGets.step (fun _ => XS.iconst X.here hx rfl (hb hby dm2_68)) ?_
        show OGets p e below _ (T.setTop (mkF m 69 #[.val (.int p0)] [(.int (1 : Int32))]))
        refine OGets.step (fun _ => XS.goto X.here hx rfl (pc0 := 69) (pc' := 73) rfl (hb hby dm2_69) (by decide) (by decide)) ?_
        show OGets p e below _ (T.setTop (mkF m 73 #[.val (.int p0)] [(.int (1 : Int32))]))
        refine OGets.retN X hx hlk (t := .boolean) Bd.returns (by simp) (hb hby dm2_73) (Nat.le_of_ble_eq_true rfl) (Nat.le_of_ble_eq_true rfl) ?_
        exact ⟨congrArg (fun z => some (Value.int z)) hv33.symm, rfl, eT⟩
  have J36 : ∀ (T : State), Stand p l e ({ frames := 0, cells := 0, slots := 0, locals := 0 } : Room) s m #[(.int p0)] below meth c T [] 0 0 → T.heap = h0 → f_refc p0 = f_refc_36 p0 → OGets p e below (OLeaves s (Q_refc Z p0 h0 n0 ) ({ frames := 0, cells := 0, slots := 0, locals := 0 } : Room).cells ({ frames := 0, cells := 0, slots := 0, locals := 0 } : Room).slots) (T.setTop (mkF m 36 #[.val (.int p0)] [])) := by
    intro T X eT hv'
    have hv : f_refc p0 = (1 : Int32) := hv'
    show OGets p e below _ (T.setTop (mkF m 36 #[.val (.int p0)] []))
    refine OGets.step (fun _ => XS.iconst X.here hx rfl (hb hby dm2_36)) ?_
    show OGets p e below _ (T.setTop (mkF m 37 #[.val (.int p0)] [(.int (1 : Int32))]))
    refine OGets.step (fun _ => XS.goto X.here hx rfl (pc0 := 37) (pc' := 41) rfl (hb hby dm2_37) (by decide) (by decide)) ?_
    show OGets p e below _ (T.setTop (mkF m 41 #[.val (.int p0)] [(.int (1 : Int32))]))
    refine OGets.retN X hx hlk (t := .boolean) Bd.returns (by simp) (hb hby dm2_41) (Nat.le_of_ble_eq_true rfl) (Nat.le_of_ble_eq_true rfl) ?_
    exact ⟨congrArg (fun z => some (Value.int z)) hv.symm, rfl, eT⟩
  have J10 : ∀ (T : State), Stand p l e ({ frames := 0, cells := 0, slots := 0, locals := 0 } : Room) s m #[(.int p0)] below meth c T [] 0 0 → T.heap = h0 → f_refc p0 = f_refc_10 p0 → OGets p e below (OLeaves s (Q_refc Z p0 h0 n0 ) ({ frames := 0, cells := 0, slots := 0, locals := 0 } : Room).cells ({ frames := 0, cells := 0, slots := 0, locals := 0 } : Room).slots) (T.setTop (mkF m 10 #[.val (.int p0)] [])) := by
    intro T X eT hv'
    have hv : f_refc p0 = (0 : Int32) := hv'
    show OGets p e below _ (T.setTop (mkF m 10 #[.val (.int p0)] []))
    refine OGets.step (fun _ => XS.iconst X.here hx rfl (hb hby dm2_10)) ?_
    show OGets p e below _ (T.setTop (mkF m 11 #[.val (.int p0)] [(.int (0 : Int32))]))
    refine OGets.retN X hx hlk (t := .boolean) Bd.returns (by simp) (hb hby dm2_11) (Nat.le_of_ble_eq_true rfl) (Nat.le_of_ble_eq_true rfl) ?_
    exact ⟨congrArg (fun z => some (Value.int z)) hv.symm, rfl, eT⟩
  have hv0 : f_refc p0 = (if p0 < (0 : Int32) then f_refc_10 p0 else (if (1114111 : Int32) < p0 then f_refc_10 p0 else (if p0 < (32 : Int32) then (if p0 = (9 : Int32) then f_refc_36 p0 else (if p0 = (10 : Int32) then f_refc_36 p0 else (if p0 = (13 : Int32) then f_refc_36 p0 else (0 : Int32)))) else (if p0 < (55296 : Int32) then f_refc_56 p0 else (if (57343 : Int32) < p0 then f_refc_56 p0 else (0 : Int32)))))) := rfl
  show OGets p e below (OLeaves s (Q_refc Z p0 h0 n0 ) ({ frames := 0, cells := 0, slots := 0, locals := 0 } : Room).cells ({ frames := 0, cells := 0, slots := 0, locals := 0 } : Room).slots) _
  refine OGets.enter (ef_refc m p0) ?_
  show OGets p e below _ (s₁.setTop (mkF m 0 #[.val (.int p0)] []))
  refine OGets.step (fun _ => XS.iloadN X0.here hx rfl (hb hby dm2_0) rfl) ?_
  show OGets p e below _ (s₁.setTop (mkF m 1 #[.val (.int p0)] [(.int p0)]))
  by_cases hc1_34 : p0 < (0 : Int32)
  · refine OGets.step (fun _ => XS.ifYes X0.here hx rfl (pc0 := 1) (pc' := 10) rfl (hb hby dm2_1) rfl ((if0 _ _).trans (tlt hc1_34).1) (by decide) (by decide)) ?_
    have hv35 := hv0.trans (if_pos hc1_34)
    show OGets p e below _ (s₁.setTop (mkF m 10 #[.val (.int p0)] []))
    exact J10 s₁ X0 e0 hv35
  · refine OGets.step (fun _ => XS.ifNo X0.here hx rfl (hb hby dm2_1) rfl ((if0 _ _).trans (flt hc1_34).1)) ?_
    have hv36 := hv0.trans (if_neg hc1_34)
    show OGets p e below _ (s₁.setTop (mkF m 4 #[.val (.int p0)] []))
    refine OGets.step (fun _ => XS.iloadN X0.here hx rfl (hb hby dm2_4) rfl) ?_
    show OGets p e below _ (s₁.setTop (mkF m 5 #[.val (.int p0)] [(.int p0)]))
    refine OGets.step (fun _ => X0.ldcInt hx hown (mvT hZ (hw _ (List.mem_of_getElem? (i := 9) rfl))) (g := (mkF m 5 #[.val (.int p0)] [(.int p0)])) rfl (hb hby dm2_5) _) ?_
    show OGets p e below _ (s₁.setTop (mkF m 7 #[.val (.int p0)] [(.int (1114111 : Int32)), (.int p0)]))
    by_cases hc7_37 : (1114111 : Int32) < p0
    · refine OGets.step (fun _ => XS.icmpNo X0.here hx rfl (hb hby dm2_7) rfl (tlt hc7_37).2.2.2) ?_
      have hv38 := hv36.trans (if_pos hc7_37)
      show OGets p e below _ (s₁.setTop (mkF m 10 #[.val (.int p0)] []))
      exact J10 s₁ X0 e0 hv38
    · refine OGets.step (fun _ => XS.icmpYes X0.here hx rfl (pc0 := 7) (pc' := 12) rfl (hb hby dm2_7) rfl (flt hc7_37).2.2.2 (by decide) (by decide)) ?_
      have hv39 := hv36.trans (if_neg hc7_37)
      show OGets p e below _ (s₁.setTop (mkF m 12 #[.val (.int p0)] []))
      refine OGets.step (fun _ => XS.iloadN X0.here hx rfl (hb hby dm2_12) rfl) ?_
      show OGets p e below _ (s₁.setTop (mkF m 13 #[.val (.int p0)] [(.int p0)]))
      refine OGets.step (fun _ => XS.bipush X0.here hx rfl (hb hby dm2_13)) ?_
      show OGets p e below _ (s₁.setTop (mkF m 15 #[.val (.int p0)] [(.int (32 : Int32)), (.int p0)]))
      by_cases hc15_40 : p0 < (32 : Int32)
      · refine OGets.step (fun _ => XS.icmpNo X0.here hx rfl (hb hby dm2_15) rfl (tlt hc15_40).2.1) ?_
        have hv41 := hv39.trans (if_pos hc15_40)
        show OGets p e below _ (s₁.setTop (mkF m 18 #[.val (.int p0)] []))
        refine OGets.step (fun _ => XS.iloadN X0.here hx rfl (hb hby dm2_18) rfl) ?_
        show OGets p e below _ (s₁.setTop (mkF m 19 #[.val (.int p0)] [(.int p0)]))
        refine OGets.step (fun _ => XS.bipush X0.here hx rfl (hb hby dm2_19)) ?_
        show OGets p e below _ (s₁.setTop (mkF m 21 #[.val (.int p0)] [(.int (9 : Int32)), (.int p0)]))
        by_cases hc21_42 : p0 = (9 : Int32)
        · refine OGets.step (fun _ => XS.icmpYes X0.here hx rfl (pc0 := 21) (pc' := 36) rfl (hb hby dm2_21) rfl (teq hc21_42).1 (by decide) (by decide)) ?_
          have hv43 := hv41.trans (if_pos hc21_42)
          show OGets p e below _ (s₁.setTop (mkF m 36 #[.val (.int p0)] []))
          exact J36 s₁ X0 e0 hv43
        · refine OGets.step (fun _ => XS.icmpNo X0.here hx rfl (hb hby dm2_21) rfl (feq hc21_42).1) ?_
          have hv44 := hv41.trans (if_neg hc21_42)
          show OGets p e below _ (s₁.setTop (mkF m 24 #[.val (.int p0)] []))
          refine OGets.step (fun _ => XS.iloadN X0.here hx rfl (hb hby dm2_24) rfl) ?_
          show OGets p e below _ (s₁.setTop (mkF m 25 #[.val (.int p0)] [(.int p0)]))
          refine OGets.step (fun _ => XS.bipush X0.here hx rfl (hb hby dm2_25)) ?_
          show OGets p e below _ (s₁.setTop (mkF m 27 #[.val (.int p0)] [(.int (10 : Int32)), (.int p0)]))
          by_cases hc27_45 : p0 = (10 : Int32)
          · refine OGets.step (fun _ => XS.icmpYes X0.here hx rfl (pc0 := 27) (pc' := 36) rfl (hb hby dm2_27) rfl (teq hc27_45).1 (by decide) (by decide)) ?_
            have hv46 := hv44.trans (if_pos hc27_45)
            show OGets p e below _ (s₁.setTop (mkF m 36 #[.val (.int p0)] []))
            exact J36 s₁ X0 e0 hv46
          · refine OGets.step (fun _ => XS.icmpNo X0.here hx rfl (hb hby dm2_27) rfl (feq hc27_45).1) ?_
            have hv47 := hv44.trans (if_neg hc27_45)
            show OGets p e below _ (s₁.setTop (mkF m 30 #[.val (.int p0)] []))
            refine OGets.step (fun _ => XS.iloadN X0.here hx rfl (hb hby dm2_30) rfl) ?_
            show OGets p e below _ (s₁.setTop (mkF m 31 #[.val (.int p0)] [(.int p0)]))
            refine OGets.step (fun _ => XS.bipush X0.here hx rfl (hb hby dm2_31)) ?_
            show OGets p e below _ (s₁.setTop (mkF m 33 #[.val (.int p0)] [(.int (13 : Int32)), (.int p0)]))
            by_cases hc33_48 : p0 = (13 : Int32)
            · refine OGets.step (fun _ => XS.icmpNo X0.here hx rfl (hb hby dm2_33) rfl (teq hc33_48).2) ?_
              have hv49 := hv47.trans (if_pos hc33_48)
              show OGets p e below _ (s₁.setTop (mkF m 36 #[.val (.int p0)] []))
              exact J36 s₁ X0 e0 hv49
            · refine OGets.step (fun _ => XS.icmpYes X0.here hx rfl (pc0 := 33) (pc' := 40) rfl (hb hby dm2_33) rfl (feq hc33_48).2 (by decide) (by decide)) ?_
              have hv50 := hv47.trans (if_neg hc33_48)
              show OGets p e below _ (s₁.setTop (mkF m 40 #[.val (.int p0)] []))
              refine OGets.step (fun _ => XS.iconst X0.here hx rfl (hb hby dm2_40)) ?_
              show OGets p e below _ (s₁.setTop (mkF m 41 #[.val (.int p0)] [(.int (0 : Int32))]))
              refine OGets.retN X0 hx hlk (t := .boolean) Bd.returns (by simp) (hb hby dm2_41) (Nat.le_of_ble_eq_true rfl) (Nat.le_of_ble_eq_true rfl) ?_
              exact ⟨congrArg (fun z => some (Value.int z)) hv50.symm, rfl, e0⟩
      · refine OGets.step (fun _ => XS.icmpYes X0.here hx rfl (pc0 := 15) (pc' := 42) rfl (hb hby dm2_15) rfl (flt hc15_40).2.1 (by decide) (by decide)) ?_
        have hv51 := hv39.trans (if_neg hc15_40)
        show OGets p e below _ (s₁.setTop (mkF m 42 #[.val (.int p0)] []))
        refine OGets.step (fun _ => XS.iloadN X0.here hx rfl (hb hby dm2_42) rfl) ?_
        show OGets p e below _ (s₁.setTop (mkF m 43 #[.val (.int p0)] [(.int p0)]))
        refine OGets.step (fun _ => X0.ldcInt hx hown (mvT hZ (hw _ (List.mem_of_getElem? (i := 2) rfl))) (g := (mkF m 43 #[.val (.int p0)] [(.int p0)])) rfl (hb hby dm2_43) _) ?_
        show OGets p e below _ (s₁.setTop (mkF m 45 #[.val (.int p0)] [(.int (55296 : Int32)), (.int p0)]))
        by_cases hc45_52 : p0 < (55296 : Int32)
        · refine OGets.step (fun _ => XS.icmpYes X0.here hx rfl (pc0 := 45) (pc' := 56) rfl (hb hby dm2_45) rfl (tlt hc45_52).1 (by decide) (by decide)) ?_
          have hv53 := hv51.trans (if_pos hc45_52)
          show OGets p e below _ (s₁.setTop (mkF m 56 #[.val (.int p0)] []))
          exact J56 s₁ X0 e0 hv53
        · refine OGets.step (fun _ => XS.icmpNo X0.here hx rfl (hb hby dm2_45) rfl (flt hc45_52).1) ?_
          have hv54 := hv51.trans (if_neg hc45_52)
          show OGets p e below _ (s₁.setTop (mkF m 48 #[.val (.int p0)] []))
          refine OGets.step (fun _ => XS.iloadN X0.here hx rfl (hb hby dm2_48) rfl) ?_
          show OGets p e below _ (s₁.setTop (mkF m 49 #[.val (.int p0)] [(.int p0)]))
          refine OGets.step (fun _ => X0.ldcInt hx hown (mvT hZ (hw _ (List.mem_of_getElem? (i := 3) rfl))) (g := (mkF m 49 #[.val (.int p0)] [(.int p0)])) rfl (hb hby dm2_49) _) ?_
          show OGets p e below _ (s₁.setTop (mkF m 51 #[.val (.int p0)] [(.int (57343 : Int32)), (.int p0)]))
          by_cases hc51_55 : (57343 : Int32) < p0
          · refine OGets.step (fun _ => XS.icmpYes X0.here hx rfl (pc0 := 51) (pc' := 56) rfl (hb hby dm2_51) rfl (tlt hc51_55).2.2.1 (by decide) (by decide)) ?_
            have hv56 := hv54.trans (if_pos hc51_55)
            show OGets p e below _ (s₁.setTop (mkF m 56 #[.val (.int p0)] []))
            exact J56 s₁ X0 e0 hv56
          · refine OGets.step (fun _ => XS.icmpNo X0.here hx rfl (hb hby dm2_51) rfl (flt hc51_55).2.2.1) ?_
            have hv57 := hv54.trans (if_neg hc51_55)
            show OGets p e below _ (s₁.setTop (mkF m 54 #[.val (.int p0)] []))
            refine OGets.step (fun _ => XS.iconst X0.here hx rfl (hb hby dm2_54)) ?_
            show OGets p e below _ (s₁.setTop (mkF m 55 #[.val (.int p0)] [(.int (0 : Int32))]))
            refine OGets.retN X0 hx hlk (t := .boolean) Bd.returns (by simp) (hb hby dm2_55) (Nat.le_of_ble_eq_true rfl) (Nat.le_of_ble_eq_true rfl) ?_
            exact ⟨congrArg (fun z => some (Value.int z)) hv57.symm, rfl, e0⟩
theorem own_alike (x : Int32) : f_isChar x = f_refc x := by
  simp only [f_isChar, f_isChar_30, f_isChar_42, f_isChar_54, f_isChar_58, f_refc, f_refc_10, f_refc_36, f_refc_56, f_refc_72, Int32.lt_iff_toInt_lt, ← Int32.toInt_inj, Int32.reduceToInt]
  generalize x.toInt = z
  repeat' split
  all_goals first | rfl | (exfalso; omega)
theorem own_ints (L : List Int32) (k : Nat) (hk : k < L.length) : ∃ w : Int32, (L.map Value.int)[k]? = some (.int w) := ⟨L[k], by simp [hk]⟩
theorem own_m15 (x : Int32) : ∃ k : Nat, (x &&& 15).toInt = (k : Int) ∧ k < 16 := by
  have h1 := c_mask x 15 4 (by decide) (by decide)
  refine ⟨(x &&& 15).toInt.toNat, ?_, ?_⟩ <;> omega
theorem pd_2 : parseMethodDescriptor "(I)Z" = some ⟨[.int], some .boolean⟩ := by decide +kernel
theorem ef_law (m : MethodId) (x0 : Int32) (x1 : Int32) (x2 : Int32) : entryFrame m #[(.int x0), (.int x1), (.int x2)] maxLocals = mkF m 0 #[.val (.int x0), .val (.int x1), .val (.int x2), .unset, .unset, .unset, .unset, .unset, .unset] [] := by first | (simp [entryFrame, mkF, argsToLocals, Value.category, maxLocals]; done) | rfl
def Q_law (Z : State) (p0 : Int32) (p1 : Int32) (p2 : Int32) (h0 : Heap) (n0 : Nat) (v : Option Value) (h : Heap) (L : List Loc) : Prop := v = some (.int 1) ∧ Fr n0 L
set_option maxRecDepth 65536 in
set_option maxHeartbeats 40000000 in
theorem rm_law (l : Launch) (Z : State) (a0 : Array Value) (hw : ∀ d ∈ tables_1, d.before a0 Z = true) (ws : List Jvm.Cond) (p0 : Int32) (p1 : Int32) (p2 : Int32) (h0 : Heap) (n0 : Nat) (Z0 : n0 ≤ h0.size) (V0 : OView Z n0 h0 ([])) :
    MetFree l x (head1 (Jvm.Cond.code x code maxLocals ret :: ws) room_1) (fun a_ U => a_ = #[(.int p0), (.int p1), (.int p2)] ∧ Z.Warmed39 U.vm ∧ U.heap = h0) (fun _ _ _ _ _ => True) (fun _ U o U' => ∃ v L, o = .returned v ∧ Q_law Z p0 p1 p2 h0 n0 v U'.heap L ∧ FrameEnd U o U' L 16 128) := by
  refine MetFree.of_bodySF (plainFor_of_name pn_1) hisR ?_
  intro p e s m args below meth c s₁ Bd hml0 hP hK
  obtain ⟨rfl, hZ, hh⟩ := hP
  have hx := Bd.exec
  have hby := Bd.bytes
  have hlk : meth.locks = false := Bd.notSynchronized
  have hml : c.maxLocals = 9 := hml0
  have hown : s.vm.findClass "com/example/guarded_expansion/guardedexpansion/XmlCharsIsCharPinLaw" = some m.cls := findClass_of_methodNamed Bd.named
  have hnm := (name_of_methodNamed Bd.named Bd.method).1
  have X0 : Stand p l e room_1 s m #[(.int p0), (.int p1), (.int p2)] below meth c s₁ [] 0 0 := Stand.of_body Bd
  have e0 : s₁.heap = h0 := by rw [← hh, Bd.state]; rfl
  have N0 := Fr.nil n0
  show OGets p e below (OLeaves s (Q_law Z p0 p1 p2 h0 n0 ) 16 128) _
  refine OGets.enter (ef_law m p0 p1 p2) ?_
  show OGets p e below _ (s₁.setTop (mkF m 0 #[.val (.int p0), .val (.int p1), .val (.int p2), .unset, .unset, .unset, .unset, .unset, .unset] []))
  refine OGets.step (fun _ => XS.bipush X0.here hx rfl (hb hby at_0)) ?_
  show OGets p e below _ (s₁.setTop (mkF m 2 #[.val (.int p0), .val (.int p1), .val (.int p2), .unset, .unset, .unset, .unset, .unset, .unset] [(.int (16 : Int32))]))
  obtain ⟨T58, h58, k58, X58, e58, E58, A58, st58⟩ := newP X0 hx hZ (hw _ (List.mem_of_getElem? (i := 0) rfl)) e0 (g := (mkF m 2 #[.val (.int p0), .val (.int p1), .val (.int p2), .unset, .unset, .unset, .unset, .unset, .unset] [(.int (16 : Int32))])) rfl (hb hby at_2) rfl (by decide) (cap := 16) (by decide) (by decide) (by decide) (by decide)
  have V58' := V0.newArr Z0 E58 A58 16 rfl
  have Z58 : n0 ≤ h58.size := Nat.le_trans Z0 E58.1
  obtain ⟨b58, g58⟩ : ∃ z, z = h0.size := ⟨_, rfl⟩
  rw [← g58] at V58' st58
  have V58 : OView Z n0 h58 (((b58, Sum.inr (.int, [(.int (0 : Int32)), (.int (0 : Int32)), (.int (0 : Int32)), (.int (0 : Int32)), (.int (0 : Int32)), (.int (0 : Int32)), (.int (0 : Int32)), (.int (0 : Int32)), (.int (0 : Int32)), (.int (0 : Int32)), (.int (0 : Int32)), (.int (0 : Int32)), (.int (0 : Int32)), (.int (0 : Int32)), (.int (0 : Int32)), (.int (0 : Int32))])) : Addr × OObj) :: []) := V58'
  refine OGets.step st58 ?_
  show OGets p e below _ (T58.setTop (mkF m 4 #[.val (.int p0), .val (.int p1), .val (.int p2), .unset, .unset, .unset, .unset, .unset, .unset] [(.ref b58)]))
  refine OGets.step (fun _ => XS.dup X58.here hx rfl (hb hby at_4) rfl rfl) ?_
  show OGets p e below _ (T58.setTop (mkF m 5 #[.val (.int p0), .val (.int p1), .val (.int p2), .unset, .unset, .unset, .unset, .unset, .unset] [(.ref b58), (.ref b58)]))
  refine OGets.step (fun _ => XS.iconst X58.here hx rfl (hb hby at_5)) ?_
  show OGets p e below _ (T58.setTop (mkF m 6 #[.val (.int p0), .val (.int p1), .val (.int p2), .unset, .unset, .unset, .unset, .unset, .unset] [(.int (0 : Int32)), (.ref b58), (.ref b58)]))
  refine OGets.step (fun _ => XS.iconst X58.here hx rfl (hb hby at_6)) ?_
  show OGets p e below _ (T58.setTop (mkF m 7 #[.val (.int p0), .val (.int p1), .val (.int p2), .unset, .unset, .unset, .unset, .unset, .unset] [(.int (0 : Int32)), (.int (0 : Int32)), (.ref b58), (.ref b58)]))
  obtain ⟨cl59, Ar59, S59⟩ := V58.arr 0 rfl
  obtain ⟨T59, h59, X59, e59, W59', st59⟩ := stI X58 hx hZ e58 Ar59 (j := (0 : Int32)) (own_inb S59 0 (by decide) (by decide)) (g := (mkF m 7 #[.val (.int p0), .val (.int p1), .val (.int p2), .unset, .unset, .unset, .unset, .unset, .unset] [(.int (0 : Int32)), (.int (0 : Int32)), (.ref b58), (.ref b58)])) rfl rfl (hb hby at_7)
  have W59 := own_wr (vs := []) 0 (by decide) W59'
  have V59 : OView Z n0 h59 (((b58, Sum.inr (.int, [(.int (0 : Int32)), (.int (0 : Int32)), (.int (0 : Int32)), (.int (0 : Int32)), (.int (0 : Int32)), (.int (0 : Int32)), (.int (0 : Int32)), (.int (0 : Int32)), (.int (0 : Int32)), (.int (0 : Int32)), (.int (0 : Int32)), (.int (0 : Int32)), (.int (0 : Int32)), (.int (0 : Int32)), (.int (0 : Int32)), (.int (0 : Int32))])) : Addr × OObj) :: []) := V58.putA 0 rfl W59
  have N59 := Fr.snoc X59 N0 (V58.old 0 rfl)
  have Z59 : n0 ≤ h59.size := by rw [W59.size]; exact Z58
  refine OGets.step st59 ?_
  show OGets p e below _ (T59.setTop (mkF m 8 #[.val (.int p0), .val (.int p1), .val (.int p2), .unset, .unset, .unset, .unset, .unset, .unset] [(.ref b58)]))
  refine OGets.step (fun _ => XS.dup X59.here hx rfl (hb hby at_8) rfl rfl) ?_
  show OGets p e below _ (T59.setTop (mkF m 9 #[.val (.int p0), .val (.int p1), .val (.int p2), .unset, .unset, .unset, .unset, .unset, .unset] [(.ref b58), (.ref b58)]))
  refine OGets.step (fun _ => XS.iconst X59.here hx rfl (hb hby at_9)) ?_
  show OGets p e below _ (T59.setTop (mkF m 10 #[.val (.int p0), .val (.int p1), .val (.int p2), .unset, .unset, .unset, .unset, .unset, .unset] [(.int (1 : Int32)), (.ref b58), (.ref b58)]))
  refine OGets.step (fun _ => XS.bipush X59.here hx rfl (hb hby at_10)) ?_
  show OGets p e below _ (T59.setTop (mkF m 12 #[.val (.int p0), .val (.int p1), .val (.int p2), .unset, .unset, .unset, .unset, .unset, .unset] [(.int (9 : Int32)), (.int (1 : Int32)), (.ref b58), (.ref b58)]))
  obtain ⟨cl60, Ar60, S60⟩ := V59.arr 0 rfl
  obtain ⟨T60, h60, X60, e60, W60', st60⟩ := stI X59 hx hZ e59 Ar60 (j := (1 : Int32)) (own_inb S60 1 (by decide) (by decide)) (g := (mkF m 12 #[.val (.int p0), .val (.int p1), .val (.int p2), .unset, .unset, .unset, .unset, .unset, .unset] [(.int (9 : Int32)), (.int (1 : Int32)), (.ref b58), (.ref b58)])) rfl rfl (hb hby at_12)
  have W60 := own_wr (vs := []) 1 (by decide) W60'
  have V60 : OView Z n0 h60 (((b58, Sum.inr (.int, [(.int (0 : Int32)), (.int (9 : Int32)), (.int (0 : Int32)), (.int (0 : Int32)), (.int (0 : Int32)), (.int (0 : Int32)), (.int (0 : Int32)), (.int (0 : Int32)), (.int (0 : Int32)), (.int (0 : Int32)), (.int (0 : Int32)), (.int (0 : Int32)), (.int (0 : Int32)), (.int (0 : Int32)), (.int (0 : Int32)), (.int (0 : Int32))])) : Addr × OObj) :: []) := V59.putA 0 rfl W60
  have N60 := Fr.snoc X60 N59 (V59.old 0 rfl)
  have Z60 : n0 ≤ h60.size := by rw [W60.size]; exact Z59
  refine OGets.step st60 ?_
  show OGets p e below _ (T60.setTop (mkF m 13 #[.val (.int p0), .val (.int p1), .val (.int p2), .unset, .unset, .unset, .unset, .unset, .unset] [(.ref b58)]))
  refine OGets.step (fun _ => XS.dup X60.here hx rfl (hb hby at_13) rfl rfl) ?_
  show OGets p e below _ (T60.setTop (mkF m 14 #[.val (.int p0), .val (.int p1), .val (.int p2), .unset, .unset, .unset, .unset, .unset, .unset] [(.ref b58), (.ref b58)]))
  refine OGets.step (fun _ => XS.iconst X60.here hx rfl (hb hby at_14)) ?_
  show OGets p e below _ (T60.setTop (mkF m 15 #[.val (.int p0), .val (.int p1), .val (.int p2), .unset, .unset, .unset, .unset, .unset, .unset] [(.int (2 : Int32)), (.ref b58), (.ref b58)]))
  refine OGets.step (fun _ => XS.bipush X60.here hx rfl (hb hby at_15)) ?_
  show OGets p e below _ (T60.setTop (mkF m 17 #[.val (.int p0), .val (.int p1), .val (.int p2), .unset, .unset, .unset, .unset, .unset, .unset] [(.int (10 : Int32)), (.int (2 : Int32)), (.ref b58), (.ref b58)]))
  obtain ⟨cl61, Ar61, S61⟩ := V60.arr 0 rfl
  obtain ⟨T61, h61, X61, e61, W61', st61⟩ := stI X60 hx hZ e60 Ar61 (j := (2 : Int32)) (own_inb S61 2 (by decide) (by decide)) (g := (mkF m 17 #[.val (.int p0), .val (.int p1), .val (.int p2), .unset, .unset, .unset, .unset, .unset, .unset] [(.int (10 : Int32)), (.int (2 : Int32)), (.ref b58), (.ref b58)])) rfl rfl (hb hby at_17)
  have W61 := own_wr (vs := []) 2 (by decide) W61'
  have V61 : OView Z n0 h61 (((b58, Sum.inr (.int, [(.int (0 : Int32)), (.int (9 : Int32)), (.int (10 : Int32)), (.int (0 : Int32)), (.int (0 : Int32)), (.int (0 : Int32)), (.int (0 : Int32)), (.int (0 : Int32)), (.int (0 : Int32)), (.int (0 : Int32)), (.int (0 : Int32)), (.int (0 : Int32)), (.int (0 : Int32)), (.int (0 : Int32)), (.int (0 : Int32)), (.int (0 : Int32))])) : Addr × OObj) :: []) := V60.putA 0 rfl W61
  have N61 := Fr.snoc X61 N60 (V60.old 0 rfl)
  have Z61 : n0 ≤ h61.size := by rw [W61.size]; exact Z60
  refine OGets.step st61 ?_
  show OGets p e below _ (T61.setTop (mkF m 18 #[.val (.int p0), .val (.int p1), .val (.int p2), .unset, .unset, .unset, .unset, .unset, .unset] [(.ref b58)]))
  refine OGets.step (fun _ => XS.dup X61.here hx rfl (hb hby at_18) rfl rfl) ?_
  show OGets p e below _ (T61.setTop (mkF m 19 #[.val (.int p0), .val (.int p1), .val (.int p2), .unset, .unset, .unset, .unset, .unset, .unset] [(.ref b58), (.ref b58)]))
  refine OGets.step (fun _ => XS.iconst X61.here hx rfl (hb hby at_19)) ?_
  show OGets p e below _ (T61.setTop (mkF m 20 #[.val (.int p0), .val (.int p1), .val (.int p2), .unset, .unset, .unset, .unset, .unset, .unset] [(.int (3 : Int32)), (.ref b58), (.ref b58)]))
  refine OGets.step (fun _ => XS.bipush X61.here hx rfl (hb hby at_20)) ?_
  show OGets p e below _ (T61.setTop (mkF m 22 #[.val (.int p0), .val (.int p1), .val (.int p2), .unset, .unset, .unset, .unset, .unset, .unset] [(.int (13 : Int32)), (.int (3 : Int32)), (.ref b58), (.ref b58)]))
  obtain ⟨cl62, Ar62, S62⟩ := V61.arr 0 rfl
  obtain ⟨T62, h62, X62, e62, W62', st62⟩ := stI X61 hx hZ e61 Ar62 (j := (3 : Int32)) (own_inb S62 3 (by decide) (by decide)) (g := (mkF m 22 #[.val (.int p0), .val (.int p1), .val (.int p2), .unset, .unset, .unset, .unset, .unset, .unset] [(.int (13 : Int32)), (.int (3 : Int32)), (.ref b58), (.ref b58)])) rfl rfl (hb hby at_22)
  have W62 := own_wr (vs := []) 3 (by decide) W62'
  have V62 : OView Z n0 h62 (((b58, Sum.inr (.int, [(.int (0 : Int32)), (.int (9 : Int32)), (.int (10 : Int32)), (.int (13 : Int32)), (.int (0 : Int32)), (.int (0 : Int32)), (.int (0 : Int32)), (.int (0 : Int32)), (.int (0 : Int32)), (.int (0 : Int32)), (.int (0 : Int32)), (.int (0 : Int32)), (.int (0 : Int32)), (.int (0 : Int32)), (.int (0 : Int32)), (.int (0 : Int32))])) : Addr × OObj) :: []) := V61.putA 0 rfl W62
  have N62 := Fr.snoc X62 N61 (V61.old 0 rfl)
  have Z62 : n0 ≤ h62.size := by rw [W62.size]; exact Z61
  refine OGets.step st62 ?_
  show OGets p e below _ (T62.setTop (mkF m 23 #[.val (.int p0), .val (.int p1), .val (.int p2), .unset, .unset, .unset, .unset, .unset, .unset] [(.ref b58)]))
  refine OGets.step (fun _ => XS.dup X62.here hx rfl (hb hby at_23) rfl rfl) ?_
  show OGets p e below _ (T62.setTop (mkF m 24 #[.val (.int p0), .val (.int p1), .val (.int p2), .unset, .unset, .unset, .unset, .unset, .unset] [(.ref b58), (.ref b58)]))
  refine OGets.step (fun _ => XS.iconst X62.here hx rfl (hb hby at_24)) ?_
  show OGets p e below _ (T62.setTop (mkF m 25 #[.val (.int p0), .val (.int p1), .val (.int p2), .unset, .unset, .unset, .unset, .unset, .unset] [(.int (4 : Int32)), (.ref b58), (.ref b58)]))
  refine OGets.step (fun _ => XS.bipush X62.here hx rfl (hb hby at_25)) ?_
  show OGets p e below _ (T62.setTop (mkF m 27 #[.val (.int p0), .val (.int p1), .val (.int p2), .unset, .unset, .unset, .unset, .unset, .unset] [(.int (32 : Int32)), (.int (4 : Int32)), (.ref b58), (.ref b58)]))
  obtain ⟨cl63, Ar63, S63⟩ := V62.arr 0 rfl
  obtain ⟨T63, h63, X63, e63, W63', st63⟩ := stI X62 hx hZ e62 Ar63 (j := (4 : Int32)) (own_inb S63 4 (by decide) (by decide)) (g := (mkF m 27 #[.val (.int p0), .val (.int p1), .val (.int p2), .unset, .unset, .unset, .unset, .unset, .unset] [(.int (32 : Int32)), (.int (4 : Int32)), (.ref b58), (.ref b58)])) rfl rfl (hb hby at_27)
  have W63 := own_wr (vs := []) 4 (by decide) W63'
  have V63 : OView Z n0 h63 (((b58, Sum.inr (.int, [(.int (0 : Int32)), (.int (9 : Int32)), (.int (10 : Int32)), (.int (13 : Int32)), (.int (32 : Int32)), (.int (0 : Int32)), (.int (0 : Int32)), (.int (0 : Int32)), (.int (0 : Int32)), (.int (0 : Int32)), (.int (0 : Int32)), (.int (0 : Int32)), (.int (0 : Int32)), (.int (0 : Int32)), (.int (0 : Int32)), (.int (0 : Int32))])) : Addr × OObj) :: []) := V62.putA 0 rfl W63
  have N63 := Fr.snoc X63 N62 (V62.old 0 rfl)
  have Z63 : n0 ≤ h63.size := by rw [W63.size]; exact Z62
  refine OGets.step st63 ?_
  show OGets p e below _ (T63.setTop (mkF m 28 #[.val (.int p0), .val (.int p1), .val (.int p2), .unset, .unset, .unset, .unset, .unset, .unset] [(.ref b58)]))
  refine OGets.step (fun _ => XS.dup X63.here hx rfl (hb hby at_28) rfl rfl) ?_
  show OGets p e below _ (T63.setTop (mkF m 29 #[.val (.int p0), .val (.int p1), .val (.int p2), .unset, .unset, .unset, .unset, .unset, .unset] [(.ref b58), (.ref b58)]))
  refine OGets.step (fun _ => XS.iconst X63.here hx rfl (hb hby at_29)) ?_
  show OGets p e below _ (T63.setTop (mkF m 30 #[.val (.int p0), .val (.int p1), .val (.int p2), .unset, .unset, .unset, .unset, .unset, .unset] [(.int (5 : Int32)), (.ref b58), (.ref b58)]))
  refine OGets.step (fun _ => X63.ldcInt hx hown (mvT hZ (hw _ (List.mem_of_getElem? (i := 1) rfl))) (g := (mkF m 30 #[.val (.int p0), .val (.int p1), .val (.int p2), .unset, .unset, .unset, .unset, .unset, .unset] [(.int (5 : Int32)), (.ref b58), (.ref b58)])) rfl (hb hby at_30) _) ?_
  show OGets p e below _ (T63.setTop (mkF m 32 #[.val (.int p0), .val (.int p1), .val (.int p2), .unset, .unset, .unset, .unset, .unset, .unset] [(.int (55295 : Int32)), (.int (5 : Int32)), (.ref b58), (.ref b58)]))
  obtain ⟨cl64, Ar64, S64⟩ := V63.arr 0 rfl
  obtain ⟨T64, h64, X64, e64, W64', st64⟩ := stI X63 hx hZ e63 Ar64 (j := (5 : Int32)) (own_inb S64 5 (by decide) (by decide)) (g := (mkF m 32 #[.val (.int p0), .val (.int p1), .val (.int p2), .unset, .unset, .unset, .unset, .unset, .unset] [(.int (55295 : Int32)), (.int (5 : Int32)), (.ref b58), (.ref b58)])) rfl rfl (hb hby at_32)
  have W64 := own_wr (vs := []) 5 (by decide) W64'
  have V64 : OView Z n0 h64 (((b58, Sum.inr (.int, [(.int (0 : Int32)), (.int (9 : Int32)), (.int (10 : Int32)), (.int (13 : Int32)), (.int (32 : Int32)), (.int (55295 : Int32)), (.int (0 : Int32)), (.int (0 : Int32)), (.int (0 : Int32)), (.int (0 : Int32)), (.int (0 : Int32)), (.int (0 : Int32)), (.int (0 : Int32)), (.int (0 : Int32)), (.int (0 : Int32)), (.int (0 : Int32))])) : Addr × OObj) :: []) := V63.putA 0 rfl W64
  have N64 := Fr.snoc X64 N63 (V63.old 0 rfl)
  have Z64 : n0 ≤ h64.size := by rw [W64.size]; exact Z63
  refine OGets.step st64 ?_
  show OGets p e below _ (T64.setTop (mkF m 33 #[.val (.int p0), .val (.int p1), .val (.int p2), .unset, .unset, .unset, .unset, .unset, .unset] [(.ref b58)]))
  refine OGets.step (fun _ => XS.dup X64.here hx rfl (hb hby at_33) rfl rfl) ?_
  show OGets p e below _ (T64.setTop (mkF m 34 #[.val (.int p0), .val (.int p1), .val (.int p2), .unset, .unset, .unset, .unset, .unset, .unset] [(.ref b58), (.ref b58)]))
  refine OGets.step (fun _ => XS.bipush X64.here hx rfl (hb hby at_34)) ?_
  show OGets p e below _ (T64.setTop (mkF m 36 #[.val (.int p0), .val (.int p1), .val (.int p2), .unset, .unset, .unset, .unset, .unset, .unset] [(.int (6 : Int32)), (.ref b58), (.ref b58)]))
  refine OGets.step (fun _ => X64.ldcInt hx hown (mvT hZ (hw _ (List.mem_of_getElem? (i := 2) rfl))) (g := (mkF m 36 #[.val (.int p0), .val (.int p1), .val (.int p2), .unset, .unset, .unset, .unset, .unset, .unset] [(.int (6 : Int32)), (.ref b58), (.ref b58)])) rfl (hb hby at_36) _) ?_
  show OGets p e below _ (T64.setTop (mkF m 38 #[.val (.int p0), .val (.int p1), .val (.int p2), .unset, .unset, .unset, .unset, .unset, .unset] [(.int (55296 : Int32)), (.int (6 : Int32)), (.ref b58), (.ref b58)]))
  obtain ⟨cl65, Ar65, S65⟩ := V64.arr 0 rfl
  obtain ⟨T65, h65, X65, e65, W65', st65⟩ := stI X64 hx hZ e64 Ar65 (j := (6 : Int32)) (own_inb S65 6 (by decide) (by decide)) (g := (mkF m 38 #[.val (.int p0), .val (.int p1), .val (.int p2), .unset, .unset, .unset, .unset, .unset, .unset] [(.int (55296 : Int32)), (.int (6 : Int32)), (.ref b58), (.ref b58)])) rfl rfl (hb hby at_38)
  have W65 := own_wr (vs := []) 6 (by decide) W65'
  have V65 : OView Z n0 h65 (((b58, Sum.inr (.int, [(.int (0 : Int32)), (.int (9 : Int32)), (.int (10 : Int32)), (.int (13 : Int32)), (.int (32 : Int32)), (.int (55295 : Int32)), (.int (55296 : Int32)), (.int (0 : Int32)), (.int (0 : Int32)), (.int (0 : Int32)), (.int (0 : Int32)), (.int (0 : Int32)), (.int (0 : Int32)), (.int (0 : Int32)), (.int (0 : Int32)), (.int (0 : Int32))])) : Addr × OObj) :: []) := V64.putA 0 rfl W65
  have N65 := Fr.snoc X65 N64 (V64.old 0 rfl)
  have Z65 : n0 ≤ h65.size := by rw [W65.size]; exact Z64
  refine OGets.step st65 ?_
  show OGets p e below _ (T65.setTop (mkF m 39 #[.val (.int p0), .val (.int p1), .val (.int p2), .unset, .unset, .unset, .unset, .unset, .unset] [(.ref b58)]))
  refine OGets.step (fun _ => XS.dup X65.here hx rfl (hb hby at_39) rfl rfl) ?_
  show OGets p e below _ (T65.setTop (mkF m 40 #[.val (.int p0), .val (.int p1), .val (.int p2), .unset, .unset, .unset, .unset, .unset, .unset] [(.ref b58), (.ref b58)]))
  refine OGets.step (fun _ => XS.bipush X65.here hx rfl (hb hby at_40)) ?_
  show OGets p e below _ (T65.setTop (mkF m 42 #[.val (.int p0), .val (.int p1), .val (.int p2), .unset, .unset, .unset, .unset, .unset, .unset] [(.int (7 : Int32)), (.ref b58), (.ref b58)]))
  refine OGets.step (fun _ => X65.ldcInt hx hown (mvT hZ (hw _ (List.mem_of_getElem? (i := 3) rfl))) (g := (mkF m 42 #[.val (.int p0), .val (.int p1), .val (.int p2), .unset, .unset, .unset, .unset, .unset, .unset] [(.int (7 : Int32)), (.ref b58), (.ref b58)])) rfl (hb hby at_42) _) ?_
  show OGets p e below _ (T65.setTop (mkF m 44 #[.val (.int p0), .val (.int p1), .val (.int p2), .unset, .unset, .unset, .unset, .unset, .unset] [(.int (57343 : Int32)), (.int (7 : Int32)), (.ref b58), (.ref b58)]))
  obtain ⟨cl66, Ar66, S66⟩ := V65.arr 0 rfl
  obtain ⟨T66, h66, X66, e66, W66', st66⟩ := stI X65 hx hZ e65 Ar66 (j := (7 : Int32)) (own_inb S66 7 (by decide) (by decide)) (g := (mkF m 44 #[.val (.int p0), .val (.int p1), .val (.int p2), .unset, .unset, .unset, .unset, .unset, .unset] [(.int (57343 : Int32)), (.int (7 : Int32)), (.ref b58), (.ref b58)])) rfl rfl (hb hby at_44)
  have W66 := own_wr (vs := []) 7 (by decide) W66'
  have V66 : OView Z n0 h66 (((b58, Sum.inr (.int, [(.int (0 : Int32)), (.int (9 : Int32)), (.int (10 : Int32)), (.int (13 : Int32)), (.int (32 : Int32)), (.int (55295 : Int32)), (.int (55296 : Int32)), (.int (57343 : Int32)), (.int (0 : Int32)), (.int (0 : Int32)), (.int (0 : Int32)), (.int (0 : Int32)), (.int (0 : Int32)), (.int (0 : Int32)), (.int (0 : Int32)), (.int (0 : Int32))])) : Addr × OObj) :: []) := V65.putA 0 rfl W66
  have N66 := Fr.snoc X66 N65 (V65.old 0 rfl)
  have Z66 : n0 ≤ h66.size := by rw [W66.size]; exact Z65
  refine OGets.step st66 ?_
  show OGets p e below _ (T66.setTop (mkF m 45 #[.val (.int p0), .val (.int p1), .val (.int p2), .unset, .unset, .unset, .unset, .unset, .unset] [(.ref b58)]))
  refine OGets.step (fun _ => XS.dup X66.here hx rfl (hb hby at_45) rfl rfl) ?_
  show OGets p e below _ (T66.setTop (mkF m 46 #[.val (.int p0), .val (.int p1), .val (.int p2), .unset, .unset, .unset, .unset, .unset, .unset] [(.ref b58), (.ref b58)]))
  refine OGets.step (fun _ => XS.bipush X66.here hx rfl (hb hby at_46)) ?_
  show OGets p e below _ (T66.setTop (mkF m 48 #[.val (.int p0), .val (.int p1), .val (.int p2), .unset, .unset, .unset, .unset, .unset, .unset] [(.int (8 : Int32)), (.ref b58), (.ref b58)]))
  refine OGets.step (fun _ => X66.ldcInt hx hown (mvT hZ (hw _ (List.mem_of_getElem? (i := 4) rfl))) (g := (mkF m 48 #[.val (.int p0), .val (.int p1), .val (.int p2), .unset, .unset, .unset, .unset, .unset, .unset] [(.int (8 : Int32)), (.ref b58), (.ref b58)])) rfl (hb hby at_48) _) ?_
  show OGets p e below _ (T66.setTop (mkF m 50 #[.val (.int p0), .val (.int p1), .val (.int p2), .unset, .unset, .unset, .unset, .unset, .unset] [(.int (57344 : Int32)), (.int (8 : Int32)), (.ref b58), (.ref b58)]))
  obtain ⟨cl67, Ar67, S67⟩ := V66.arr 0 rfl
  obtain ⟨T67, h67, X67, e67, W67', st67⟩ := stI X66 hx hZ e66 Ar67 (j := (8 : Int32)) (own_inb S67 8 (by decide) (by decide)) (g := (mkF m 50 #[.val (.int p0), .val (.int p1), .val (.int p2), .unset, .unset, .unset, .unset, .unset, .unset] [(.int (57344 : Int32)), (.int (8 : Int32)), (.ref b58), (.ref b58)])) rfl rfl (hb hby at_50)
  have W67 := own_wr (vs := []) 8 (by decide) W67'
  have V67 : OView Z n0 h67 (((b58, Sum.inr (.int, [(.int (0 : Int32)), (.int (9 : Int32)), (.int (10 : Int32)), (.int (13 : Int32)), (.int (32 : Int32)), (.int (55295 : Int32)), (.int (55296 : Int32)), (.int (57343 : Int32)), (.int (57344 : Int32)), (.int (0 : Int32)), (.int (0 : Int32)), (.int (0 : Int32)), (.int (0 : Int32)), (.int (0 : Int32)), (.int (0 : Int32)), (.int (0 : Int32))])) : Addr × OObj) :: []) := V66.putA 0 rfl W67
  have N67 := Fr.snoc X67 N66 (V66.old 0 rfl)
  have Z67 : n0 ≤ h67.size := by rw [W67.size]; exact Z66
  refine OGets.step st67 ?_
  show OGets p e below _ (T67.setTop (mkF m 51 #[.val (.int p0), .val (.int p1), .val (.int p2), .unset, .unset, .unset, .unset, .unset, .unset] [(.ref b58)]))
  refine OGets.step (fun _ => XS.dup X67.here hx rfl (hb hby at_51) rfl rfl) ?_
  show OGets p e below _ (T67.setTop (mkF m 52 #[.val (.int p0), .val (.int p1), .val (.int p2), .unset, .unset, .unset, .unset, .unset, .unset] [(.ref b58), (.ref b58)]))
  refine OGets.step (fun _ => XS.bipush X67.here hx rfl (hb hby at_52)) ?_
  show OGets p e below _ (T67.setTop (mkF m 54 #[.val (.int p0), .val (.int p1), .val (.int p2), .unset, .unset, .unset, .unset, .unset, .unset] [(.int (9 : Int32)), (.ref b58), (.ref b58)]))
  refine OGets.step (fun _ => X67.ldcInt hx hown (mvT hZ (hw _ (List.mem_of_getElem? (i := 5) rfl))) (g := (mkF m 54 #[.val (.int p0), .val (.int p1), .val (.int p2), .unset, .unset, .unset, .unset, .unset, .unset] [(.int (9 : Int32)), (.ref b58), (.ref b58)])) rfl (hb hby at_54) _) ?_
  show OGets p e below _ (T67.setTop (mkF m 56 #[.val (.int p0), .val (.int p1), .val (.int p2), .unset, .unset, .unset, .unset, .unset, .unset] [(.int (65533 : Int32)), (.int (9 : Int32)), (.ref b58), (.ref b58)]))
  obtain ⟨cl68, Ar68, S68⟩ := V67.arr 0 rfl
  obtain ⟨T68, h68, X68, e68, W68', st68⟩ := stI X67 hx hZ e67 Ar68 (j := (9 : Int32)) (own_inb S68 9 (by decide) (by decide)) (g := (mkF m 56 #[.val (.int p0), .val (.int p1), .val (.int p2), .unset, .unset, .unset, .unset, .unset, .unset] [(.int (65533 : Int32)), (.int (9 : Int32)), (.ref b58), (.ref b58)])) rfl rfl (hb hby at_56)
  have W68 := own_wr (vs := []) 9 (by decide) W68'
  have V68 : OView Z n0 h68 (((b58, Sum.inr (.int, [(.int (0 : Int32)), (.int (9 : Int32)), (.int (10 : Int32)), (.int (13 : Int32)), (.int (32 : Int32)), (.int (55295 : Int32)), (.int (55296 : Int32)), (.int (57343 : Int32)), (.int (57344 : Int32)), (.int (65533 : Int32)), (.int (0 : Int32)), (.int (0 : Int32)), (.int (0 : Int32)), (.int (0 : Int32)), (.int (0 : Int32)), (.int (0 : Int32))])) : Addr × OObj) :: []) := V67.putA 0 rfl W68
  have N68 := Fr.snoc X68 N67 (V67.old 0 rfl)
  have Z68 : n0 ≤ h68.size := by rw [W68.size]; exact Z67
  refine OGets.step st68 ?_
  show OGets p e below _ (T68.setTop (mkF m 57 #[.val (.int p0), .val (.int p1), .val (.int p2), .unset, .unset, .unset, .unset, .unset, .unset] [(.ref b58)]))
  refine OGets.step (fun _ => XS.dup X68.here hx rfl (hb hby at_57) rfl rfl) ?_
  show OGets p e below _ (T68.setTop (mkF m 58 #[.val (.int p0), .val (.int p1), .val (.int p2), .unset, .unset, .unset, .unset, .unset, .unset] [(.ref b58), (.ref b58)]))
  refine OGets.step (fun _ => XS.bipush X68.here hx rfl (hb hby at_58)) ?_
  show OGets p e below _ (T68.setTop (mkF m 60 #[.val (.int p0), .val (.int p1), .val (.int p2), .unset, .unset, .unset, .unset, .unset, .unset] [(.int (10 : Int32)), (.ref b58), (.ref b58)]))
  refine OGets.step (fun _ => X68.ldcInt hx hown (mvT hZ (hw _ (List.mem_of_getElem? (i := 6) rfl))) (g := (mkF m 60 #[.val (.int p0), .val (.int p1), .val (.int p2), .unset, .unset, .unset, .unset, .unset, .unset] [(.int (10 : Int32)), (.ref b58), (.ref b58)])) rfl (hb hby at_60) _) ?_
  show OGets p e below _ (T68.setTop (mkF m 62 #[.val (.int p0), .val (.int p1), .val (.int p2), .unset, .unset, .unset, .unset, .unset, .unset] [(.int (65534 : Int32)), (.int (10 : Int32)), (.ref b58), (.ref b58)]))
  obtain ⟨cl69, Ar69, S69⟩ := V68.arr 0 rfl
  obtain ⟨T69, h69, X69, e69, W69', st69⟩ := stI X68 hx hZ e68 Ar69 (j := (10 : Int32)) (own_inb S69 10 (by decide) (by decide)) (g := (mkF m 62 #[.val (.int p0), .val (.int p1), .val (.int p2), .unset, .unset, .unset, .unset, .unset, .unset] [(.int (65534 : Int32)), (.int (10 : Int32)), (.ref b58), (.ref b58)])) rfl rfl (hb hby at_62)
  have W69 := own_wr (vs := []) 10 (by decide) W69'
  have V69 : OView Z n0 h69 (((b58, Sum.inr (.int, [(.int (0 : Int32)), (.int (9 : Int32)), (.int (10 : Int32)), (.int (13 : Int32)), (.int (32 : Int32)), (.int (55295 : Int32)), (.int (55296 : Int32)), (.int (57343 : Int32)), (.int (57344 : Int32)), (.int (65533 : Int32)), (.int (65534 : Int32)), (.int (0 : Int32)), (.int (0 : Int32)), (.int (0 : Int32)), (.int (0 : Int32)), (.int (0 : Int32))])) : Addr × OObj) :: []) := V68.putA 0 rfl W69
  have N69 := Fr.snoc X69 N68 (V68.old 0 rfl)
  have Z69 : n0 ≤ h69.size := by rw [W69.size]; exact Z68
  refine OGets.step st69 ?_
  show OGets p e below _ (T69.setTop (mkF m 63 #[.val (.int p0), .val (.int p1), .val (.int p2), .unset, .unset, .unset, .unset, .unset, .unset] [(.ref b58)]))
  refine OGets.step (fun _ => XS.dup X69.here hx rfl (hb hby at_63) rfl rfl) ?_
  show OGets p e below _ (T69.setTop (mkF m 64 #[.val (.int p0), .val (.int p1), .val (.int p2), .unset, .unset, .unset, .unset, .unset, .unset] [(.ref b58), (.ref b58)]))
  refine OGets.step (fun _ => XS.bipush X69.here hx rfl (hb hby at_64)) ?_
  show OGets p e below _ (T69.setTop (mkF m 66 #[.val (.int p0), .val (.int p1), .val (.int p2), .unset, .unset, .unset, .unset, .unset, .unset] [(.int (11 : Int32)), (.ref b58), (.ref b58)]))
  refine OGets.step (fun _ => X69.ldcInt hx hown (mvT hZ (hw _ (List.mem_of_getElem? (i := 7) rfl))) (g := (mkF m 66 #[.val (.int p0), .val (.int p1), .val (.int p2), .unset, .unset, .unset, .unset, .unset, .unset] [(.int (11 : Int32)), (.ref b58), (.ref b58)])) rfl (hb hby at_66) _) ?_
  show OGets p e below _ (T69.setTop (mkF m 68 #[.val (.int p0), .val (.int p1), .val (.int p2), .unset, .unset, .unset, .unset, .unset, .unset] [(.int (65535 : Int32)), (.int (11 : Int32)), (.ref b58), (.ref b58)]))
  obtain ⟨cl70, Ar70, S70⟩ := V69.arr 0 rfl
  obtain ⟨T70, h70, X70, e70, W70', st70⟩ := stI X69 hx hZ e69 Ar70 (j := (11 : Int32)) (own_inb S70 11 (by decide) (by decide)) (g := (mkF m 68 #[.val (.int p0), .val (.int p1), .val (.int p2), .unset, .unset, .unset, .unset, .unset, .unset] [(.int (65535 : Int32)), (.int (11 : Int32)), (.ref b58), (.ref b58)])) rfl rfl (hb hby at_68)
  have W70 := own_wr (vs := []) 11 (by decide) W70'
  have V70 : OView Z n0 h70 (((b58, Sum.inr (.int, [(.int (0 : Int32)), (.int (9 : Int32)), (.int (10 : Int32)), (.int (13 : Int32)), (.int (32 : Int32)), (.int (55295 : Int32)), (.int (55296 : Int32)), (.int (57343 : Int32)), (.int (57344 : Int32)), (.int (65533 : Int32)), (.int (65534 : Int32)), (.int (65535 : Int32)), (.int (0 : Int32)), (.int (0 : Int32)), (.int (0 : Int32)), (.int (0 : Int32))])) : Addr × OObj) :: []) := V69.putA 0 rfl W70
  have N70 := Fr.snoc X70 N69 (V69.old 0 rfl)
  have Z70 : n0 ≤ h70.size := by rw [W70.size]; exact Z69
  refine OGets.step st70 ?_
  show OGets p e below _ (T70.setTop (mkF m 69 #[.val (.int p0), .val (.int p1), .val (.int p2), .unset, .unset, .unset, .unset, .unset, .unset] [(.ref b58)]))
  refine OGets.step (fun _ => XS.dup X70.here hx rfl (hb hby at_69) rfl rfl) ?_
  show OGets p e below _ (T70.setTop (mkF m 70 #[.val (.int p0), .val (.int p1), .val (.int p2), .unset, .unset, .unset, .unset, .unset, .unset] [(.ref b58), (.ref b58)]))
  refine OGets.step (fun _ => XS.bipush X70.here hx rfl (hb hby at_70)) ?_
  show OGets p e below _ (T70.setTop (mkF m 72 #[.val (.int p0), .val (.int p1), .val (.int p2), .unset, .unset, .unset, .unset, .unset, .unset] [(.int (12 : Int32)), (.ref b58), (.ref b58)]))
  refine OGets.step (fun _ => X70.ldcInt hx hown (mvT hZ (hw _ (List.mem_of_getElem? (i := 8) rfl))) (g := (mkF m 72 #[.val (.int p0), .val (.int p1), .val (.int p2), .unset, .unset, .unset, .unset, .unset, .unset] [(.int (12 : Int32)), (.ref b58), (.ref b58)])) rfl (hb hby at_72) _) ?_
  show OGets p e below _ (T70.setTop (mkF m 74 #[.val (.int p0), .val (.int p1), .val (.int p2), .unset, .unset, .unset, .unset, .unset, .unset] [(.int (65536 : Int32)), (.int (12 : Int32)), (.ref b58), (.ref b58)]))
  obtain ⟨cl71, Ar71, S71⟩ := V70.arr 0 rfl
  obtain ⟨T71, h71, X71, e71, W71', st71⟩ := stI X70 hx hZ e70 Ar71 (j := (12 : Int32)) (own_inb S71 12 (by decide) (by decide)) (g := (mkF m 74 #[.val (.int p0), .val (.int p1), .val (.int p2), .unset, .unset, .unset, .unset, .unset, .unset] [(.int (65536 : Int32)), (.int (12 : Int32)), (.ref b58), (.ref b58)])) rfl rfl (hb hby at_74)
  have W71 := own_wr (vs := []) 12 (by decide) W71'
  have V71 : OView Z n0 h71 (((b58, Sum.inr (.int, [(.int (0 : Int32)), (.int (9 : Int32)), (.int (10 : Int32)), (.int (13 : Int32)), (.int (32 : Int32)), (.int (55295 : Int32)), (.int (55296 : Int32)), (.int (57343 : Int32)), (.int (57344 : Int32)), (.int (65533 : Int32)), (.int (65534 : Int32)), (.int (65535 : Int32)), (.int (65536 : Int32)), (.int (0 : Int32)), (.int (0 : Int32)), (.int (0 : Int32))])) : Addr × OObj) :: []) := V70.putA 0 rfl W71
  have N71 := Fr.snoc X71 N70 (V70.old 0 rfl)
  have Z71 : n0 ≤ h71.size := by rw [W71.size]; exact Z70
  refine OGets.step st71 ?_
  show OGets p e below _ (T71.setTop (mkF m 75 #[.val (.int p0), .val (.int p1), .val (.int p2), .unset, .unset, .unset, .unset, .unset, .unset] [(.ref b58)]))
  refine OGets.step (fun _ => XS.dup X71.here hx rfl (hb hby at_75) rfl rfl) ?_
  show OGets p e below _ (T71.setTop (mkF m 76 #[.val (.int p0), .val (.int p1), .val (.int p2), .unset, .unset, .unset, .unset, .unset, .unset] [(.ref b58), (.ref b58)]))
  refine OGets.step (fun _ => XS.bipush X71.here hx rfl (hb hby at_76)) ?_
  show OGets p e below _ (T71.setTop (mkF m 78 #[.val (.int p0), .val (.int p1), .val (.int p2), .unset, .unset, .unset, .unset, .unset, .unset] [(.int (13 : Int32)), (.ref b58), (.ref b58)]))
  refine OGets.step (fun _ => X71.ldcInt hx hown (mvT hZ (hw _ (List.mem_of_getElem? (i := 9) rfl))) (g := (mkF m 78 #[.val (.int p0), .val (.int p1), .val (.int p2), .unset, .unset, .unset, .unset, .unset, .unset] [(.int (13 : Int32)), (.ref b58), (.ref b58)])) rfl (hb hby at_78) _) ?_
  show OGets p e below _ (T71.setTop (mkF m 80 #[.val (.int p0), .val (.int p1), .val (.int p2), .unset, .unset, .unset, .unset, .unset, .unset] [(.int (1114111 : Int32)), (.int (13 : Int32)), (.ref b58), (.ref b58)]))
  obtain ⟨cl72, Ar72, S72⟩ := V71.arr 0 rfl
  obtain ⟨T72, h72, X72, e72, W72', st72⟩ := stI X71 hx hZ e71 Ar72 (j := (13 : Int32)) (own_inb S72 13 (by decide) (by decide)) (g := (mkF m 80 #[.val (.int p0), .val (.int p1), .val (.int p2), .unset, .unset, .unset, .unset, .unset, .unset] [(.int (1114111 : Int32)), (.int (13 : Int32)), (.ref b58), (.ref b58)])) rfl rfl (hb hby at_80)
  have W72 := own_wr (vs := []) 13 (by decide) W72'
  have V72 : OView Z n0 h72 (((b58, Sum.inr (.int, [(.int (0 : Int32)), (.int (9 : Int32)), (.int (10 : Int32)), (.int (13 : Int32)), (.int (32 : Int32)), (.int (55295 : Int32)), (.int (55296 : Int32)), (.int (57343 : Int32)), (.int (57344 : Int32)), (.int (65533 : Int32)), (.int (65534 : Int32)), (.int (65535 : Int32)), (.int (65536 : Int32)), (.int (1114111 : Int32)), (.int (0 : Int32)), (.int (0 : Int32))])) : Addr × OObj) :: []) := V71.putA 0 rfl W72
  have N72 := Fr.snoc X72 N71 (V71.old 0 rfl)
  have Z72 : n0 ≤ h72.size := by rw [W72.size]; exact Z71
  refine OGets.step st72 ?_
  show OGets p e below _ (T72.setTop (mkF m 81 #[.val (.int p0), .val (.int p1), .val (.int p2), .unset, .unset, .unset, .unset, .unset, .unset] [(.ref b58)]))
  refine OGets.step (fun _ => XS.dup X72.here hx rfl (hb hby at_81) rfl rfl) ?_
  show OGets p e below _ (T72.setTop (mkF m 82 #[.val (.int p0), .val (.int p1), .val (.int p2), .unset, .unset, .unset, .unset, .unset, .unset] [(.ref b58), (.ref b58)]))
  refine OGets.step (fun _ => XS.bipush X72.here hx rfl (hb hby at_82)) ?_
  show OGets p e below _ (T72.setTop (mkF m 84 #[.val (.int p0), .val (.int p1), .val (.int p2), .unset, .unset, .unset, .unset, .unset, .unset] [(.int (14 : Int32)), (.ref b58), (.ref b58)]))
  refine OGets.step (fun _ => X72.ldcInt hx hown (mvT hZ (hw _ (List.mem_of_getElem? (i := 10) rfl))) (g := (mkF m 84 #[.val (.int p0), .val (.int p1), .val (.int p2), .unset, .unset, .unset, .unset, .unset, .unset] [(.int (14 : Int32)), (.ref b58), (.ref b58)])) rfl (hb hby at_84) _) ?_
  show OGets p e below _ (T72.setTop (mkF m 86 #[.val (.int p0), .val (.int p1), .val (.int p2), .unset, .unset, .unset, .unset, .unset, .unset] [(.int (1114112 : Int32)), (.int (14 : Int32)), (.ref b58), (.ref b58)]))
  obtain ⟨cl73, Ar73, S73⟩ := V72.arr 0 rfl
  obtain ⟨T73, h73, X73, e73, W73', st73⟩ := stI X72 hx hZ e72 Ar73 (j := (14 : Int32)) (own_inb S73 14 (by decide) (by decide)) (g := (mkF m 86 #[.val (.int p0), .val (.int p1), .val (.int p2), .unset, .unset, .unset, .unset, .unset, .unset] [(.int (1114112 : Int32)), (.int (14 : Int32)), (.ref b58), (.ref b58)])) rfl rfl (hb hby at_86)
  have W73 := own_wr (vs := []) 14 (by decide) W73'
  have V73 : OView Z n0 h73 (((b58, Sum.inr (.int, [(.int (0 : Int32)), (.int (9 : Int32)), (.int (10 : Int32)), (.int (13 : Int32)), (.int (32 : Int32)), (.int (55295 : Int32)), (.int (55296 : Int32)), (.int (57343 : Int32)), (.int (57344 : Int32)), (.int (65533 : Int32)), (.int (65534 : Int32)), (.int (65535 : Int32)), (.int (65536 : Int32)), (.int (1114111 : Int32)), (.int (1114112 : Int32)), (.int (0 : Int32))])) : Addr × OObj) :: []) := V72.putA 0 rfl W73
  have N73 := Fr.snoc X73 N72 (V72.old 0 rfl)
  have Z73 : n0 ≤ h73.size := by rw [W73.size]; exact Z72
  refine OGets.step st73 ?_
  show OGets p e below _ (T73.setTop (mkF m 87 #[.val (.int p0), .val (.int p1), .val (.int p2), .unset, .unset, .unset, .unset, .unset, .unset] [(.ref b58)]))
  refine OGets.step (fun _ => XS.dup X73.here hx rfl (hb hby at_87) rfl rfl) ?_
  show OGets p e below _ (T73.setTop (mkF m 88 #[.val (.int p0), .val (.int p1), .val (.int p2), .unset, .unset, .unset, .unset, .unset, .unset] [(.ref b58), (.ref b58)]))
  refine OGets.step (fun _ => XS.bipush X73.here hx rfl (hb hby at_88)) ?_
  show OGets p e below _ (T73.setTop (mkF m 90 #[.val (.int p0), .val (.int p1), .val (.int p2), .unset, .unset, .unset, .unset, .unset, .unset] [(.int (15 : Int32)), (.ref b58), (.ref b58)]))
  refine OGets.step (fun _ => X73.ldcInt hx hown (mvT hZ (hw _ (List.mem_of_getElem? (i := 11) rfl))) (g := (mkF m 90 #[.val (.int p0), .val (.int p1), .val (.int p2), .unset, .unset, .unset, .unset, .unset, .unset] [(.int (15 : Int32)), (.ref b58), (.ref b58)])) rfl (hb hby at_90) _) ?_
  show OGets p e below _ (T73.setTop (mkF m 92 #[.val (.int p0), .val (.int p1), .val (.int p2), .unset, .unset, .unset, .unset, .unset, .unset] [(.int (-2147483648 : Int32)), (.int (15 : Int32)), (.ref b58), (.ref b58)]))
  obtain ⟨cl74, Ar74, S74⟩ := V73.arr 0 rfl
  obtain ⟨T74, h74, X74, e74, W74', st74⟩ := stI X73 hx hZ e73 Ar74 (j := (15 : Int32)) (own_inb S74 15 (by decide) (by decide)) (g := (mkF m 92 #[.val (.int p0), .val (.int p1), .val (.int p2), .unset, .unset, .unset, .unset, .unset, .unset] [(.int (-2147483648 : Int32)), (.int (15 : Int32)), (.ref b58), (.ref b58)])) rfl rfl (hb hby at_92)
  have W74 := own_wr (vs := []) 15 (by decide) W74'
  have V74 : OView Z n0 h74 (((b58, Sum.inr (.int, [(.int (0 : Int32)), (.int (9 : Int32)), (.int (10 : Int32)), (.int (13 : Int32)), (.int (32 : Int32)), (.int (55295 : Int32)), (.int (55296 : Int32)), (.int (57343 : Int32)), (.int (57344 : Int32)), (.int (65533 : Int32)), (.int (65534 : Int32)), (.int (65535 : Int32)), (.int (65536 : Int32)), (.int (1114111 : Int32)), (.int (1114112 : Int32)), (.int (-2147483648 : Int32))])) : Addr × OObj) :: []) := V73.putA 0 rfl W74
  have N74 := Fr.snoc X74 N73 (V73.old 0 rfl)
  have Z74 : n0 ≤ h74.size := by rw [W74.size]; exact Z73
  refine OGets.step st74 ?_
  show OGets p e below _ (T74.setTop (mkF m 93 #[.val (.int p0), .val (.int p1), .val (.int p2), .unset, .unset, .unset, .unset, .unset, .unset] [(.ref b58)]))
  refine OGets.step (fun _ => XS.astoreN X74.here hx rfl (hb hby at_93) rfl rfl (l' := #[.val (.int p0), .val (.int p1), .val (.int p2), .val (.ref b58), .unset, .unset, .unset, .unset, .unset]) rfl) ?_
  show OGets p e below _ (T74.setTop (mkF m 94 #[.val (.int p0), .val (.int p1), .val (.int p2), .val (.ref b58), .unset, .unset, .unset, .unset, .unset] []))
  refine OGets.step (fun _ => XS.aloadN X74.here hx rfl (hb hby at_94) rfl rfl) ?_
  show OGets p e below _ (T74.setTop (mkF m 95 #[.val (.int p0), .val (.int p1), .val (.int p2), .val (.ref b58), .unset, .unset, .unset, .unset, .unset] [(.ref b58)]))
  refine OGets.step (fun _ => XS.iloadN X74.here hx rfl (hb hby at_95) rfl) ?_
  show OGets p e below _ (T74.setTop (mkF m 96 #[.val (.int p0), .val (.int p1), .val (.int p2), .val (.ref b58), .unset, .unset, .unset, .unset, .unset] [(.int p1), (.ref b58)]))
  refine OGets.step (fun _ => XS.bipush X74.here hx rfl (hb hby at_96)) ?_
  show OGets p e below _ (T74.setTop (mkF m 98 #[.val (.int p0), .val (.int p1), .val (.int p2), .val (.ref b58), .unset, .unset, .unset, .unset, .unset] [(.int (15 : Int32)), (.int p1), (.ref b58)]))
  refine OGets.step (fun _ => XS.iand X74.here hx rfl (hb hby at_98) rfl) ?_
  show OGets p e below _ (T74.setTop (mkF m 99 #[.val (.int p0), .val (.int p1), .val (.int p2), .val (.ref b58), .unset, .unset, .unset, .unset, .unset] [(.int (p1 &&& (15 : Int32))), (.ref b58)]))
  obtain ⟨cl, Ar, Sx⟩ := V74.arr 0 rfl
  obtain ⟨k, hk, hlt⟩ := own_m15 p1
  obtain ⟨w, hwk⟩ := own_ints [(0 : Int32), (9 : Int32), (10 : Int32), (13 : Int32), (32 : Int32), (55295 : Int32), (55296 : Int32), (57343 : Int32), (57344 : Int32), (65533 : Int32), (65534 : Int32), (65535 : Int32), (65536 : Int32), (1114111 : Int32), (1114112 : Int32), (-2147483648 : Int32)] k hlt
  refine OGets.step (fun _ => X74.iaload hx (j := (p1 &&& (15 : Int32))) (v := (.int w)) (by rw [e74]; exact Ar.1) (State.isArrayOf_alike hZ.alike Ar.2.1) Ar.2.2 (own_inb Sx k hk hlt) (own_get Sx k hk hwk) (g := (mkF m 99 #[.val (.int p0), .val (.int p1), .val (.int p2), .val (.ref b58), .unset, .unset, .unset, .unset, .unset] [(.int (p1 &&& (15 : Int32))), (.ref b58)])) rfl rfl (hb hby at_99) _) ?_
  show OGets p e below _ (T74.setTop (mkF m 100 #[.val (.int p0), .val (.int p1), .val (.int p2), .val (.ref b58), .unset, .unset, .unset, .unset, .unset] [(.int w)]))
  refine OGets.step (fun _ => XS.iloadN X74.here hx rfl (hb hby at_100) rfl) ?_
  show OGets p e below _ (T74.setTop (mkF m 101 #[.val (.int p0), .val (.int p1), .val (.int p2), .val (.ref b58), .unset, .unset, .unset, .unset, .unset] [(.int p2), (.int w)]))
  refine OGets.step (fun _ => XS.bipush X74.here hx rfl (hb hby at_101)) ?_
  show OGets p e below _ (T74.setTop (mkF m 103 #[.val (.int p0), .val (.int p1), .val (.int p2), .val (.ref b58), .unset, .unset, .unset, .unset, .unset] [(.int (7 : Int32)), (.int p2), (.int w)]))
  refine OGets.step (fun _ => XS.iand X74.here hx rfl (hb hby at_103) rfl) ?_
  show OGets p e below _ (T74.setTop (mkF m 104 #[.val (.int p0), .val (.int p1), .val (.int p2), .val (.ref b58), .unset, .unset, .unset, .unset, .unset] [(.int (p2 &&& (7 : Int32))), (.int w)]))
  refine OGets.step (fun _ => XS.iconst X74.here hx rfl (hb hby at_104)) ?_
  show OGets p e below _ (T74.setTop (mkF m 105 #[.val (.int p0), .val (.int p1), .val (.int p2), .val (.ref b58), .unset, .unset, .unset, .unset, .unset] [(.int (4 : Int32)), (.int (p2 &&& (7 : Int32))), (.int w)]))
  refine OGets.step (fun _ => XS.isub X74.here hx rfl (hb hby at_105) rfl) ?_
  show OGets p e below _ (T74.setTop (mkF m 106 #[.val (.int p0), .val (.int p1), .val (.int p2), .val (.ref b58), .unset, .unset, .unset, .unset, .unset] [(.int ((p2 &&& (7 : Int32)) - (4 : Int32))), (.int w)]))
  refine OGets.step (fun _ => XS.iadd X74.here hx rfl (hb hby at_106) rfl) ?_
  show OGets p e below _ (T74.setTop (mkF m 107 #[.val (.int p0), .val (.int p1), .val (.int p2), .val (.ref b58), .unset, .unset, .unset, .unset, .unset] [(.int (w + ((p2 &&& (7 : Int32)) - (4 : Int32))))]))
  refine OGets.step (fun _ => XS.istore X74.here hx rfl (hb hby at_107) rfl (l' := #[.val (.int p0), .val (.int p1), .val (.int p2), .val (.ref b58), .val (.int (w + ((p2 &&& (7 : Int32)) - (4 : Int32)))), .unset, .unset, .unset, .unset]) rfl) ?_
  show OGets p e below _ (T74.setTop (mkF m 109 #[.val (.int p0), .val (.int p1), .val (.int p2), .val (.ref b58), .val (.int (w + ((p2 &&& (7 : Int32)) - (4 : Int32)))), .unset, .unset, .unset, .unset] []))
  refine OGets.step (fun _ => XS.iloadN X74.here hx rfl (hb hby at_109) rfl) ?_
  show OGets p e below _ (T74.setTop (mkF m 110 #[.val (.int p0), .val (.int p1), .val (.int p2), .val (.ref b58), .val (.int (w + ((p2 &&& (7 : Int32)) - (4 : Int32)))), .unset, .unset, .unset, .unset] [(.int p0)]))
  refine OGets.step (fun _ => X74.ldcInt hx hown (mvT hZ (hw _ (List.mem_of_getElem? (i := 12) rfl))) (g := (mkF m 110 #[.val (.int p0), .val (.int p1), .val (.int p2), .val (.ref b58), .val (.int (w + ((p2 &&& (7 : Int32)) - (4 : Int32)))), .unset, .unset, .unset, .unset] [(.int p0)])) rfl (hb hby at_110) _) ?_
  show OGets p e below _ (T74.setTop (mkF m 112 #[.val (.int p0), .val (.int p1), .val (.int p2), .val (.ref b58), .val (.int (w + ((p2 &&& (7 : Int32)) - (4 : Int32)))), .unset, .unset, .unset, .unset] [(.int (2097151 : Int32)), (.int p0)]))
  refine OGets.step (fun _ => XS.iand X74.here hx rfl (hb hby at_112) rfl) ?_
  show OGets p e below _ (T74.setTop (mkF m 113 #[.val (.int p0), .val (.int p1), .val (.int p2), .val (.ref b58), .val (.int (w + ((p2 &&& (7 : Int32)) - (4 : Int32)))), .unset, .unset, .unset, .unset] [(.int (p0 &&& (2097151 : Int32)))]))
  refine OGets.step (fun _ => XS.istore X74.here hx rfl (hb hby at_113) rfl (l' := #[.val (.int p0), .val (.int p1), .val (.int p2), .val (.ref b58), .val (.int (w + ((p2 &&& (7 : Int32)) - (4 : Int32)))), .val (.int (p0 &&& (2097151 : Int32))), .unset, .unset, .unset]) rfl) ?_
  show OGets p e below _ (T74.setTop (mkF m 115 #[.val (.int p0), .val (.int p1), .val (.int p2), .val (.ref b58), .val (.int (w + ((p2 &&& (7 : Int32)) - (4 : Int32)))), .val (.int (p0 &&& (2097151 : Int32))), .unset, .unset, .unset] []))
  refine OGets.step (fun _ => XS.iloadN X74.here hx rfl (hb hby at_115) rfl) ?_
  show OGets p e below _ (T74.setTop (mkF m 116 #[.val (.int p0), .val (.int p1), .val (.int p2), .val (.ref b58), .val (.int (w + ((p2 &&& (7 : Int32)) - (4 : Int32)))), .val (.int (p0 &&& (2097151 : Int32))), .unset, .unset, .unset] [(.int p0)]))
  obtain ⟨_, _, ⟨T75, L75, k75, n75⟩, -, X75, ⟨Lc75, hQ75, l75, y75, z75⟩, st75⟩ := Jvm.LawKit.callS X74 hx (y := (⟨"com/example/guarded_expansion/guardedexpansion/XmlChars", "isChar", "(I)Z"⟩ : MethodName)) hown (mvT hZ (hw _ (List.mem_of_getElem? (i := 13) rfl))) (mvT hZ (hw _ (List.mem_of_getElem? (i := 14) rfl))) (mvT hZ (hw _ (List.mem_of_getElem? (i := 15) rfl))) (mvT hZ (hw _ (List.mem_of_getElem? (i := 16) rfl))) (by decide) (backOf (W := 0) (rm_isChar l Z a0 hw [] p0 h74 n0  Z74 ) hZ (hw _ (List.mem_of_getElem? (i := 16) rfl)) (hw _ (List.mem_of_getElem? (i := 15) rfl)) (by decide) (by decide)) (g := (mkF m 116 #[.val (.int p0), .val (.int p1), .val (.int p2), .val (.ref b58), .val (.int (w + ((p2 &&& (7 : Int32)) - (4 : Int32)))), .val (.int (p0 &&& (2097151 : Int32))), .unset, .unset, .unset] [(.int p0)])) rfl (by rw [hml]; rfl) (argsL := [(.int p0)]) (rest := []) (lenOf pd_2 rfl) rfl (by show 2 * 0 + _ ≤ _; exact Nat.le_of_eq rfl) (hb hby at_116) (fun _ _ => ⟨rfl, e74, Nat.le_of_ble_eq_true rfl, Nat.le_of_ble_eq_true rfl⟩)
  dsimp only [Pt.U, Pt.locs, Pt.cells, Pt.slots] at X75 l75 y75 z75 st75 hQ75
  rw [l75, y75, z75] at X75
  obtain ⟨rfl, rfl, e75⟩ := hQ75
  have N75 := Fr.app N74 (Fr.nil n0)
  refine OGets.step st75 ?_
  show OGets p e below _ (T75.setTop (mkF m 119 #[.val (.int p0), .val (.int p1), .val (.int p2), .val (.ref b58), .val (.int (w + ((p2 &&& (7 : Int32)) - (4 : Int32)))), .val (.int (p0 &&& (2097151 : Int32))), .unset, .unset, .unset] [(.int (f_isChar p0))]))
  refine OGets.step (fun _ => XS.iloadN X75.here hx rfl (hb hby at_119) rfl) ?_
  show OGets p e below _ (T75.setTop (mkF m 120 #[.val (.int p0), .val (.int p1), .val (.int p2), .val (.ref b58), .val (.int (w + ((p2 &&& (7 : Int32)) - (4 : Int32)))), .val (.int (p0 &&& (2097151 : Int32))), .unset, .unset, .unset] [(.int p0), (.int (f_isChar p0))]))
  obtain ⟨_, _, ⟨T76, L76, k76, n76⟩, -, X76, ⟨Lc76, hQ76, l76, y76, z76⟩, st76⟩ := Jvm.LawKit.callS X75 hx (y := (⟨"com/example/guarded_expansion/guardedexpansion/XmlCharsIsCharPinLaw", "ref", "(I)Z"⟩ : MethodName)) hown (mvT hZ (hw _ (List.mem_of_getElem? (i := 19) rfl))) (mvT hZ (hw _ (List.mem_of_getElem? (i := 20) rfl))) (mvT hZ (hw _ (List.mem_of_getElem? (i := 21) rfl))) (mvT hZ (hw _ (List.mem_of_getElem? (i := 22) rfl))) (by decide) (backOf (W := 1) (rm_refc l Z a0 hw [] p0 h74 n0  Z74 ) hZ (hw _ (List.mem_of_getElem? (i := 22) rfl)) (hw _ (List.mem_of_getElem? (i := 21) rfl)) (by decide) (by decide)) (g := (mkF m 120 #[.val (.int p0), .val (.int p1), .val (.int p2), .val (.ref b58), .val (.int (w + ((p2 &&& (7 : Int32)) - (4 : Int32)))), .val (.int (p0 &&& (2097151 : Int32))), .unset, .unset, .unset] [(.int p0), (.int (f_isChar p0))])) rfl (by rw [hml]; rfl) (argsL := [(.int p0)]) (rest := [(.int (f_isChar p0))]) (lenOf pd_2 rfl) rfl (by show 2 * 0 + _ ≤ _; exact Nat.le_of_eq rfl) (hb hby at_120) (fun _ _ => ⟨rfl, e75, Nat.le_of_ble_eq_true rfl, Nat.le_of_ble_eq_true rfl⟩)
  dsimp only [Pt.U, Pt.locs, Pt.cells, Pt.slots] at X76 l76 y76 z76 st76 hQ76
  rw [l76, y76, z76] at X76
  obtain ⟨rfl, rfl, e76⟩ := hQ76
  have N76 := Fr.app N75 (Fr.nil n0)
  refine OGets.step st76 ?_
  show OGets p e below _ (T76.setTop (mkF m 123 #[.val (.int p0), .val (.int p1), .val (.int p2), .val (.ref b58), .val (.int (w + ((p2 &&& (7 : Int32)) - (4 : Int32)))), .val (.int (p0 &&& (2097151 : Int32))), .unset, .unset, .unset] [(.int (f_refc p0)), (.int (f_isChar p0))]))
  refine OGets.step (fun _ => XS.icmpNo X76.here hx rfl (hb hby at_123) rfl (teq (own_alike _ : (f_isChar p0) = (f_refc p0))).2) ?_
  show OGets p e below _ (T76.setTop (mkF m 126 #[.val (.int p0), .val (.int p1), .val (.int p2), .val (.ref b58), .val (.int (w + ((p2 &&& (7 : Int32)) - (4 : Int32)))), .val (.int (p0 &&& (2097151 : Int32))), .unset, .unset, .unset] []))
  refine OGets.step (fun _ => XS.iconst X76.here hx rfl (hb hby at_126)) ?_
  show OGets p e below _ (T76.setTop (mkF m 127 #[.val (.int p0), .val (.int p1), .val (.int p2), .val (.ref b58), .val (.int (w + ((p2 &&& (7 : Int32)) - (4 : Int32)))), .val (.int (p0 &&& (2097151 : Int32))), .unset, .unset, .unset] [(.int (1 : Int32))]))
  refine OGets.step (fun _ => XS.goto X76.here hx rfl (pc0 := 127) (pc' := 131) rfl (hb hby at_127) (by decide) (by decide)) ?_
  show OGets p e below _ (T76.setTop (mkF m 131 #[.val (.int p0), .val (.int p1), .val (.int p2), .val (.ref b58), .val (.int (w + ((p2 &&& (7 : Int32)) - (4 : Int32)))), .val (.int (p0 &&& (2097151 : Int32))), .unset, .unset, .unset] [(.int (1 : Int32))]))
  refine OGets.step (fun _ => XS.istore X76.here hx rfl (hb hby at_131) rfl (l' := #[.val (.int p0), .val (.int p1), .val (.int p2), .val (.ref b58), .val (.int (w + ((p2 &&& (7 : Int32)) - (4 : Int32)))), .val (.int (p0 &&& (2097151 : Int32))), .val (.int (1 : Int32)), .unset, .unset]) rfl) ?_
  show OGets p e below _ (T76.setTop (mkF m 133 #[.val (.int p0), .val (.int p1), .val (.int p2), .val (.ref b58), .val (.int (w + ((p2 &&& (7 : Int32)) - (4 : Int32)))), .val (.int (p0 &&& (2097151 : Int32))), .val (.int (1 : Int32)), .unset, .unset] []))
  refine OGets.step (fun _ => XS.iload X76.here hx rfl (hb hby at_133) rfl) ?_
  show OGets p e below _ (T76.setTop (mkF m 135 #[.val (.int p0), .val (.int p1), .val (.int p2), .val (.ref b58), .val (.int (w + ((p2 &&& (7 : Int32)) - (4 : Int32)))), .val (.int (p0 &&& (2097151 : Int32))), .val (.int (1 : Int32)), .unset, .unset] [(.int (w + ((p2 &&& (7 : Int32)) - (4 : Int32))))]))
  obtain ⟨_, _, ⟨T78, L78, k78, n78⟩, -, X78, ⟨Lc78, hQ78, l78, y78, z78⟩, st78⟩ := Jvm.LawKit.callS X76 hx (y := (⟨"com/example/guarded_expansion/guardedexpansion/XmlChars", "isChar", "(I)Z"⟩ : MethodName)) hown (mvT hZ (hw _ (List.mem_of_getElem? (i := 13) rfl))) (mvT hZ (hw _ (List.mem_of_getElem? (i := 14) rfl))) (mvT hZ (hw _ (List.mem_of_getElem? (i := 15) rfl))) (mvT hZ (hw _ (List.mem_of_getElem? (i := 16) rfl))) (by decide) (backOf (W := 0) (rm_isChar l Z a0 hw [] (w + ((p2 &&& (7 : Int32)) - (4 : Int32))) h74 n0  Z74 ) hZ (hw _ (List.mem_of_getElem? (i := 16) rfl)) (hw _ (List.mem_of_getElem? (i := 15) rfl)) (by decide) (by decide)) (g := (mkF m 135 #[.val (.int p0), .val (.int p1), .val (.int p2), .val (.ref b58), .val (.int (w + ((p2 &&& (7 : Int32)) - (4 : Int32)))), .val (.int (p0 &&& (2097151 : Int32))), .val (.int (1 : Int32)), .unset, .unset] [(.int (w + ((p2 &&& (7 : Int32)) - (4 : Int32))))])) rfl (by rw [hml]; rfl) (argsL := [(.int (w + ((p2 &&& (7 : Int32)) - (4 : Int32))))]) (rest := []) (lenOf pd_2 rfl) rfl (by show 2 * 0 + _ ≤ _; exact Nat.le_of_eq rfl) (hb hby at_135) (fun _ _ => ⟨rfl, e76, Nat.le_of_ble_eq_true rfl, Nat.le_of_ble_eq_true rfl⟩)
  dsimp only [Pt.U, Pt.locs, Pt.cells, Pt.slots] at X78 l78 y78 z78 st78 hQ78
  rw [l78, y78, z78] at X78
  obtain ⟨rfl, rfl, e78⟩ := hQ78
  have N78 := Fr.app N76 (Fr.nil n0)
  refine OGets.step st78 ?_
  show OGets p e below _ (T78.setTop (mkF m 138 #[.val (.int p0), .val (.int p1), .val (.int p2), .val (.ref b58), .val (.int (w + ((p2 &&& (7 : Int32)) - (4 : Int32)))), .val (.int (p0 &&& (2097151 : Int32))), .val (.int (1 : Int32)), .unset, .unset] [(.int (f_isChar (w + ((p2 &&& (7 : Int32)) - (4 : Int32)))))]))
  refine OGets.step (fun _ => XS.iload X78.here hx rfl (hb hby at_138) rfl) ?_
  show OGets p e below _ (T78.setTop (mkF m 140 #[.val (.int p0), .val (.int p1), .val (.int p2), .val (.ref b58), .val (.int (w + ((p2 &&& (7 : Int32)) - (4 : Int32)))), .val (.int (p0 &&& (2097151 : Int32))), .val (.int (1 : Int32)), .unset, .unset] [(.int (w + ((p2 &&& (7 : Int32)) - (4 : Int32)))), (.int (f_isChar (w + ((p2 &&& (7 : Int32)) - (4 : Int32)))))]))
  obtain ⟨_, _, ⟨T79, L79, k79, n79⟩, -, X79, ⟨Lc79, hQ79, l79, y79, z79⟩, st79⟩ := Jvm.LawKit.callS X78 hx (y := (⟨"com/example/guarded_expansion/guardedexpansion/XmlCharsIsCharPinLaw", "ref", "(I)Z"⟩ : MethodName)) hown (mvT hZ (hw _ (List.mem_of_getElem? (i := 19) rfl))) (mvT hZ (hw _ (List.mem_of_getElem? (i := 20) rfl))) (mvT hZ (hw _ (List.mem_of_getElem? (i := 21) rfl))) (mvT hZ (hw _ (List.mem_of_getElem? (i := 22) rfl))) (by decide) (backOf (W := 1) (rm_refc l Z a0 hw [] (w + ((p2 &&& (7 : Int32)) - (4 : Int32))) h74 n0  Z74 ) hZ (hw _ (List.mem_of_getElem? (i := 22) rfl)) (hw _ (List.mem_of_getElem? (i := 21) rfl)) (by decide) (by decide)) (g := (mkF m 140 #[.val (.int p0), .val (.int p1), .val (.int p2), .val (.ref b58), .val (.int (w + ((p2 &&& (7 : Int32)) - (4 : Int32)))), .val (.int (p0 &&& (2097151 : Int32))), .val (.int (1 : Int32)), .unset, .unset] [(.int (w + ((p2 &&& (7 : Int32)) - (4 : Int32)))), (.int (f_isChar (w + ((p2 &&& (7 : Int32)) - (4 : Int32)))))])) rfl (by rw [hml]; rfl) (argsL := [(.int (w + ((p2 &&& (7 : Int32)) - (4 : Int32))))]) (rest := [(.int (f_isChar (w + ((p2 &&& (7 : Int32)) - (4 : Int32)))))]) (lenOf pd_2 rfl) rfl (by show 2 * 0 + _ ≤ _; exact Nat.le_of_eq rfl) (hb hby at_140) (fun _ _ => ⟨rfl, e78, Nat.le_of_ble_eq_true rfl, Nat.le_of_ble_eq_true rfl⟩)
  dsimp only [Pt.U, Pt.locs, Pt.cells, Pt.slots] at X79 l79 y79 z79 st79 hQ79
  rw [l79, y79, z79] at X79
  obtain ⟨rfl, rfl, e79⟩ := hQ79
  have N79 := Fr.app N78 (Fr.nil n0)
  refine OGets.step st79 ?_
  show OGets p e below _ (T79.setTop (mkF m 143 #[.val (.int p0), .val (.int p1), .val (.int p2), .val (.ref b58), .val (.int (w + ((p2 &&& (7 : Int32)) - (4 : Int32)))), .val (.int (p0 &&& (2097151 : Int32))), .val (.int (1 : Int32)), .unset, .unset] [(.int (f_refc (w + ((p2 &&& (7 : Int32)) - (4 : Int32))))), (.int (f_isChar (w + ((p2 &&& (7 : Int32)) - (4 : Int32)))))]))
  refine OGets.step (fun _ => XS.icmpNo X79.here hx rfl (hb hby at_143) rfl (teq (own_alike _ : (f_isChar (w + ((p2 &&& (7 : Int32)) - (4 : Int32)))) = (f_refc (w + ((p2 &&& (7 : Int32)) - (4 : Int32)))))).2) ?_
  show OGets p e below _ (T79.setTop (mkF m 146 #[.val (.int p0), .val (.int p1), .val (.int p2), .val (.ref b58), .val (.int (w + ((p2 &&& (7 : Int32)) - (4 : Int32)))), .val (.int (p0 &&& (2097151 : Int32))), .val (.int (1 : Int32)), .unset, .unset] []))
  refine OGets.step (fun _ => XS.iconst X79.here hx rfl (hb hby at_146)) ?_
  show OGets p e below _ (T79.setTop (mkF m 147 #[.val (.int p0), .val (.int p1), .val (.int p2), .val (.ref b58), .val (.int (w + ((p2 &&& (7 : Int32)) - (4 : Int32)))), .val (.int (p0 &&& (2097151 : Int32))), .val (.int (1 : Int32)), .unset, .unset] [(.int (1 : Int32))]))
  refine OGets.step (fun _ => XS.goto X79.here hx rfl (pc0 := 147) (pc' := 151) rfl (hb hby at_147) (by decide) (by decide)) ?_
  show OGets p e below _ (T79.setTop (mkF m 151 #[.val (.int p0), .val (.int p1), .val (.int p2), .val (.ref b58), .val (.int (w + ((p2 &&& (7 : Int32)) - (4 : Int32)))), .val (.int (p0 &&& (2097151 : Int32))), .val (.int (1 : Int32)), .unset, .unset] [(.int (1 : Int32))]))
  refine OGets.step (fun _ => XS.istore X79.here hx rfl (hb hby at_151) rfl (l' := #[.val (.int p0), .val (.int p1), .val (.int p2), .val (.ref b58), .val (.int (w + ((p2 &&& (7 : Int32)) - (4 : Int32)))), .val (.int (p0 &&& (2097151 : Int32))), .val (.int (1 : Int32)), .val (.int (1 : Int32)), .unset]) rfl) ?_
  show OGets p e below _ (T79.setTop (mkF m 153 #[.val (.int p0), .val (.int p1), .val (.int p2), .val (.ref b58), .val (.int (w + ((p2 &&& (7 : Int32)) - (4 : Int32)))), .val (.int (p0 &&& (2097151 : Int32))), .val (.int (1 : Int32)), .val (.int (1 : Int32)), .unset] []))
  refine OGets.step (fun _ => XS.iload X79.here hx rfl (hb hby at_153) rfl) ?_
  show OGets p e below _ (T79.setTop (mkF m 155 #[.val (.int p0), .val (.int p1), .val (.int p2), .val (.ref b58), .val (.int (w + ((p2 &&& (7 : Int32)) - (4 : Int32)))), .val (.int (p0 &&& (2097151 : Int32))), .val (.int (1 : Int32)), .val (.int (1 : Int32)), .unset] [(.int (p0 &&& (2097151 : Int32)))]))
  obtain ⟨_, _, ⟨T81, L81, k81, n81⟩, -, X81, ⟨Lc81, hQ81, l81, y81, z81⟩, st81⟩ := Jvm.LawKit.callS X79 hx (y := (⟨"com/example/guarded_expansion/guardedexpansion/XmlChars", "isChar", "(I)Z"⟩ : MethodName)) hown (mvT hZ (hw _ (List.mem_of_getElem? (i := 13) rfl))) (mvT hZ (hw _ (List.mem_of_getElem? (i := 14) rfl))) (mvT hZ (hw _ (List.mem_of_getElem? (i := 15) rfl))) (mvT hZ (hw _ (List.mem_of_getElem? (i := 16) rfl))) (by decide) (backOf (W := 0) (rm_isChar l Z a0 hw [] (p0 &&& (2097151 : Int32)) h74 n0  Z74 ) hZ (hw _ (List.mem_of_getElem? (i := 16) rfl)) (hw _ (List.mem_of_getElem? (i := 15) rfl)) (by decide) (by decide)) (g := (mkF m 155 #[.val (.int p0), .val (.int p1), .val (.int p2), .val (.ref b58), .val (.int (w + ((p2 &&& (7 : Int32)) - (4 : Int32)))), .val (.int (p0 &&& (2097151 : Int32))), .val (.int (1 : Int32)), .val (.int (1 : Int32)), .unset] [(.int (p0 &&& (2097151 : Int32)))])) rfl (by rw [hml]; rfl) (argsL := [(.int (p0 &&& (2097151 : Int32)))]) (rest := []) (lenOf pd_2 rfl) rfl (by show 2 * 0 + _ ≤ _; exact Nat.le_of_eq rfl) (hb hby at_155) (fun _ _ => ⟨rfl, e79, Nat.le_of_ble_eq_true rfl, Nat.le_of_ble_eq_true rfl⟩)
  dsimp only [Pt.U, Pt.locs, Pt.cells, Pt.slots] at X81 l81 y81 z81 st81 hQ81
  rw [l81, y81, z81] at X81
  obtain ⟨rfl, rfl, e81⟩ := hQ81
  have N81 := Fr.app N79 (Fr.nil n0)
  refine OGets.step st81 ?_
  show OGets p e below _ (T81.setTop (mkF m 158 #[.val (.int p0), .val (.int p1), .val (.int p2), .val (.ref b58), .val (.int (w + ((p2 &&& (7 : Int32)) - (4 : Int32)))), .val (.int (p0 &&& (2097151 : Int32))), .val (.int (1 : Int32)), .val (.int (1 : Int32)), .unset] [(.int (f_isChar (p0 &&& (2097151 : Int32))))]))
  refine OGets.step (fun _ => XS.iload X81.here hx rfl (hb hby at_158) rfl) ?_
  show OGets p e below _ (T81.setTop (mkF m 160 #[.val (.int p0), .val (.int p1), .val (.int p2), .val (.ref b58), .val (.int (w + ((p2 &&& (7 : Int32)) - (4 : Int32)))), .val (.int (p0 &&& (2097151 : Int32))), .val (.int (1 : Int32)), .val (.int (1 : Int32)), .unset] [(.int (p0 &&& (2097151 : Int32))), (.int (f_isChar (p0 &&& (2097151 : Int32))))]))
  obtain ⟨_, _, ⟨T82, L82, k82, n82⟩, -, X82, ⟨Lc82, hQ82, l82, y82, z82⟩, st82⟩ := Jvm.LawKit.callS X81 hx (y := (⟨"com/example/guarded_expansion/guardedexpansion/XmlCharsIsCharPinLaw", "ref", "(I)Z"⟩ : MethodName)) hown (mvT hZ (hw _ (List.mem_of_getElem? (i := 19) rfl))) (mvT hZ (hw _ (List.mem_of_getElem? (i := 20) rfl))) (mvT hZ (hw _ (List.mem_of_getElem? (i := 21) rfl))) (mvT hZ (hw _ (List.mem_of_getElem? (i := 22) rfl))) (by decide) (backOf (W := 1) (rm_refc l Z a0 hw [] (p0 &&& (2097151 : Int32)) h74 n0  Z74 ) hZ (hw _ (List.mem_of_getElem? (i := 22) rfl)) (hw _ (List.mem_of_getElem? (i := 21) rfl)) (by decide) (by decide)) (g := (mkF m 160 #[.val (.int p0), .val (.int p1), .val (.int p2), .val (.ref b58), .val (.int (w + ((p2 &&& (7 : Int32)) - (4 : Int32)))), .val (.int (p0 &&& (2097151 : Int32))), .val (.int (1 : Int32)), .val (.int (1 : Int32)), .unset] [(.int (p0 &&& (2097151 : Int32))), (.int (f_isChar (p0 &&& (2097151 : Int32))))])) rfl (by rw [hml]; rfl) (argsL := [(.int (p0 &&& (2097151 : Int32)))]) (rest := [(.int (f_isChar (p0 &&& (2097151 : Int32))))]) (lenOf pd_2 rfl) rfl (by show 2 * 0 + _ ≤ _; exact Nat.le_of_eq rfl) (hb hby at_160) (fun _ _ => ⟨rfl, e81, Nat.le_of_ble_eq_true rfl, Nat.le_of_ble_eq_true rfl⟩)
  dsimp only [Pt.U, Pt.locs, Pt.cells, Pt.slots] at X82 l82 y82 z82 st82 hQ82
  rw [l82, y82, z82] at X82
  obtain ⟨rfl, rfl, e82⟩ := hQ82
  have N82 := Fr.app N81 (Fr.nil n0)
  refine OGets.step st82 ?_
  show OGets p e below _ (T82.setTop (mkF m 163 #[.val (.int p0), .val (.int p1), .val (.int p2), .val (.ref b58), .val (.int (w + ((p2 &&& (7 : Int32)) - (4 : Int32)))), .val (.int (p0 &&& (2097151 : Int32))), .val (.int (1 : Int32)), .val (.int (1 : Int32)), .unset] [(.int (f_refc (p0 &&& (2097151 : Int32)))), (.int (f_isChar (p0 &&& (2097151 : Int32))))]))
  refine OGets.step (fun _ => XS.icmpNo X82.here hx rfl (hb hby at_163) rfl (teq (own_alike _ : (f_isChar (p0 &&& (2097151 : Int32))) = (f_refc (p0 &&& (2097151 : Int32))))).2) ?_
  show OGets p e below _ (T82.setTop (mkF m 166 #[.val (.int p0), .val (.int p1), .val (.int p2), .val (.ref b58), .val (.int (w + ((p2 &&& (7 : Int32)) - (4 : Int32)))), .val (.int (p0 &&& (2097151 : Int32))), .val (.int (1 : Int32)), .val (.int (1 : Int32)), .unset] []))
  refine OGets.step (fun _ => XS.iconst X82.here hx rfl (hb hby at_166)) ?_
  show OGets p e below _ (T82.setTop (mkF m 167 #[.val (.int p0), .val (.int p1), .val (.int p2), .val (.ref b58), .val (.int (w + ((p2 &&& (7 : Int32)) - (4 : Int32)))), .val (.int (p0 &&& (2097151 : Int32))), .val (.int (1 : Int32)), .val (.int (1 : Int32)), .unset] [(.int (1 : Int32))]))
  refine OGets.step (fun _ => XS.goto X82.here hx rfl (pc0 := 167) (pc' := 171) rfl (hb hby at_167) (by decide) (by decide)) ?_
  show OGets p e below _ (T82.setTop (mkF m 171 #[.val (.int p0), .val (.int p1), .val (.int p2), .val (.ref b58), .val (.int (w + ((p2 &&& (7 : Int32)) - (4 : Int32)))), .val (.int (p0 &&& (2097151 : Int32))), .val (.int (1 : Int32)), .val (.int (1 : Int32)), .unset] [(.int (1 : Int32))]))
  refine OGets.step (fun _ => XS.istore X82.here hx rfl (hb hby at_171) rfl (l' := #[.val (.int p0), .val (.int p1), .val (.int p2), .val (.ref b58), .val (.int (w + ((p2 &&& (7 : Int32)) - (4 : Int32)))), .val (.int (p0 &&& (2097151 : Int32))), .val (.int (1 : Int32)), .val (.int (1 : Int32)), .val (.int (1 : Int32))]) rfl) ?_
  show OGets p e below _ (T82.setTop (mkF m 173 #[.val (.int p0), .val (.int p1), .val (.int p2), .val (.ref b58), .val (.int (w + ((p2 &&& (7 : Int32)) - (4 : Int32)))), .val (.int (p0 &&& (2097151 : Int32))), .val (.int (1 : Int32)), .val (.int (1 : Int32)), .val (.int (1 : Int32))] []))
  refine OGets.step (fun _ => XS.iload X82.here hx rfl (hb hby at_173) rfl) ?_
  show OGets p e below _ (T82.setTop (mkF m 175 #[.val (.int p0), .val (.int p1), .val (.int p2), .val (.ref b58), .val (.int (w + ((p2 &&& (7 : Int32)) - (4 : Int32)))), .val (.int (p0 &&& (2097151 : Int32))), .val (.int (1 : Int32)), .val (.int (1 : Int32)), .val (.int (1 : Int32))] [(.int (1 : Int32))]))
  refine OGets.step (fun _ => XS.ifNo X82.here hx rfl (hb hby at_175) rfl ((if0 _ _).trans (feq (by decide : ¬ ((1 : Int32) = (0 : Int32)))).1)) ?_
  show OGets p e below _ (T82.setTop (mkF m 178 #[.val (.int p0), .val (.int p1), .val (.int p2), .val (.ref b58), .val (.int (w + ((p2 &&& (7 : Int32)) - (4 : Int32)))), .val (.int (p0 &&& (2097151 : Int32))), .val (.int (1 : Int32)), .val (.int (1 : Int32)), .val (.int (1 : Int32))] []))
  refine OGets.step (fun _ => XS.iload X82.here hx rfl (hb hby at_178) rfl) ?_
  show OGets p e below _ (T82.setTop (mkF m 180 #[.val (.int p0), .val (.int p1), .val (.int p2), .val (.ref b58), .val (.int (w + ((p2 &&& (7 : Int32)) - (4 : Int32)))), .val (.int (p0 &&& (2097151 : Int32))), .val (.int (1 : Int32)), .val (.int (1 : Int32)), .val (.int (1 : Int32))] [(.int (1 : Int32))]))
  refine OGets.step (fun _ => XS.ifNo X82.here hx rfl (hb hby at_180) rfl ((if0 _ _).trans (feq (by decide : ¬ ((1 : Int32) = (0 : Int32)))).1)) ?_
  show OGets p e below _ (T82.setTop (mkF m 183 #[.val (.int p0), .val (.int p1), .val (.int p2), .val (.ref b58), .val (.int (w + ((p2 &&& (7 : Int32)) - (4 : Int32)))), .val (.int (p0 &&& (2097151 : Int32))), .val (.int (1 : Int32)), .val (.int (1 : Int32)), .val (.int (1 : Int32))] []))
  refine OGets.step (fun _ => XS.iload X82.here hx rfl (hb hby at_183) rfl) ?_
  show OGets p e below _ (T82.setTop (mkF m 185 #[.val (.int p0), .val (.int p1), .val (.int p2), .val (.ref b58), .val (.int (w + ((p2 &&& (7 : Int32)) - (4 : Int32)))), .val (.int (p0 &&& (2097151 : Int32))), .val (.int (1 : Int32)), .val (.int (1 : Int32)), .val (.int (1 : Int32))] [(.int (1 : Int32))]))
  refine OGets.step (fun _ => XS.ifNo X82.here hx rfl (hb hby at_185) rfl ((if0 _ _).trans (feq (by decide : ¬ ((1 : Int32) = (0 : Int32)))).1)) ?_
  show OGets p e below _ (T82.setTop (mkF m 188 #[.val (.int p0), .val (.int p1), .val (.int p2), .val (.ref b58), .val (.int (w + ((p2 &&& (7 : Int32)) - (4 : Int32)))), .val (.int (p0 &&& (2097151 : Int32))), .val (.int (1 : Int32)), .val (.int (1 : Int32)), .val (.int (1 : Int32))] []))
  refine OGets.step (fun _ => XS.iconst X82.here hx rfl (hb hby at_188)) ?_
  show OGets p e below _ (T82.setTop (mkF m 189 #[.val (.int p0), .val (.int p1), .val (.int p2), .val (.ref b58), .val (.int (w + ((p2 &&& (7 : Int32)) - (4 : Int32)))), .val (.int (p0 &&& (2097151 : Int32))), .val (.int (1 : Int32)), .val (.int (1 : Int32)), .val (.int (1 : Int32))] [(.int (1 : Int32))]))
  refine OGets.step (fun _ => XS.goto X82.here hx rfl (pc0 := 189) (pc' := 193) rfl (hb hby at_189) (by decide) (by decide)) ?_
  show OGets p e below _ (T82.setTop (mkF m 193 #[.val (.int p0), .val (.int p1), .val (.int p2), .val (.ref b58), .val (.int (w + ((p2 &&& (7 : Int32)) - (4 : Int32)))), .val (.int (p0 &&& (2097151 : Int32))), .val (.int (1 : Int32)), .val (.int (1 : Int32)), .val (.int (1 : Int32))] [(.int (1 : Int32))]))
  refine OGets.retN X82 hx hlk (t := .boolean) Bd.returns (by simp) (hb hby at_193) (Nat.le_of_ble_eq_true rfl) (Nat.le_of_ble_eq_true rfl) ?_
  exact ⟨rfl, N82⟩
set_option maxRecDepth 65536 in
set_option maxHeartbeats 40000000 in
theorem comes_1 {Post : Tables → Env → Array Value → State → Outcome → State → Prop} (hpost : ∀ tb e args s v u, (limb_1_1.after args s (.returned v) u = true ∧ limb_1_2.after args s (.returned v) u = true ∧ True) → FrameEnd s (.returned v) u (Jvm.fieldLocs frame_1_writes args s ++ Jvm.arrayLocs frame_1_arrays args s ++ Jvm.staticLocs frame_1_statics s) 16 128 → Post tb e args s (.returned v) u) :
    ArmFor flags0 classFile x code maxLocals ret World_1 tables_1 room_1 Calls_1 rest_1 Pre_1 Post := by
  intro l hfl _ _ p e ha hc hk s m args below hf hA hF happ hP
  obtain ⟨hcalls, hrest, hpre⟩ := hP
  obtain ⟨-, -, -, hnamed, -, -, -, hat⟩ := (Spec.applies_iff hf).mp happ
  obtain ⟨hg, hn⟩ := and_e (Cond.before_iff.mp (show (Jvm.Cond.and given_1 narrow_1).before args s = true from hpre))
  obtain ⟨hcount, hg0⟩ := and_e hg
  obtain ⟨ga0, hg1⟩ := and_e hg0
  obtain ⟨ga1, hg2⟩ := and_e hg1
  have ga2 := hg2
  obtain ⟨w0, w1, w2, rfl⟩ : ∃ w0 w1 w2 : Value, args = #[w0, w1, w2] := by
    have hs : args.size = 3 := by simpa [Cond.value, given_1] using hcount
    obtain ⟨L⟩ := args
    match L, hs with
    | [w0, w1, w2], _ => exact ⟨w0, w1, w2, rfl⟩
  have hw := fun d (hd : d ∈ tables_1) => atoms_spec (ws := Jvm.Cond.code x code maxLocals ret :: tables_1) hat d (List.mem_cons_of_mem _ hd)
  have hfit : Fit s := fun {y c} hc i hi => by
    obtain ⟨ha, rfl⟩ := Array.getElem?_eq_some_iff.mp hc
    have q := List.all_eq_true.mp ((Array.all_eq_true_iff_forall_mem.mp hF) _ (Array.getElem_mem ha)) i (List.mem_range.mpr hi)
    simpa [Array.getElem?_eq_getElem hi] using q
  obtain ⟨i0, ei0⟩ := is_v ga0
  obtain rfl : w0 = (.int i0) := Option.some.inj ei0
  obtain ⟨i1, ei1⟩ := is_v ga1
  obtain rfl : w1 = (.int i1) := Option.some.inj ei1
  obtain ⟨i2, ei2⟩ := is_v ga2
  obtain rfl : w2 = (.int i2) := Option.some.inj ei2
  obtain ⟨n, o, h1, h2, h3, _, L, rfl, ⟨rfl, N⟩, hq⟩ := rm_law l s _ hw tables_1 i0 i1 i2 s.heap s.heap.size (Nat.le_refl _)  (OView.nil _ _ _) p e ha hc hk s m _ below hf ((Spec.applies_iff_loose hf).mp happ).1 ⟨rfl, State.Warmed39.refl s, rfl⟩ trivial
  refine ⟨n, _, h1, h2, h3, hpost _ _ _ _ _ _ ⟨Cond.after_iff.mpr rfl, Cond.after_iff.mpr (eq_i res_at (Term.int_eval (1)) rfl), trivial⟩ ⟨hq.1, hq.2.1, (hq.2.2.sift fun y hy => Or.inr (N y hy)).mono (by decide) (by decide)⟩⟩
theorem main_1_1 : Claimed_1_1 := comes_1 fun _ _ _ _ _ _ h hF => ⟨h.1, hF⟩
theorem main_1_2 : Claimed_1_2 := comes_1 fun _ _ _ _ _ _ h hF => ⟨h.2.1, hF⟩
end Jvm.Pilot.@@N@@
namespace Jvm.Pilot.@@N@@
open Jvm Jvm.ClassFile Sem Op Lib Jvm.Free Jvm.Stand Jvm.Pilot.@@N@@.Jvm.D
/-! MADE BY PROGRAM (witnessworld.py) out of the Statement's table words and the real class files: 9 classes; the members and pool entries that the words name. The judged class is class 1, her method 2. -/
namespace start1
open Jvm.ClassFile
def u (s : String) : CpInfo := .utf8 (stringToUtf16 s)
/-- a pool by its gaps: so many unusable entries, then the entry; so many at the end -/
def gap : Nat → List CpInfo → List CpInfo
  | 0, r => r
  | n + 1, r => .unusable :: gap n r
def poolList (es : List (Nat × CpInfo)) (last : Nat) : List CpInfo := es.foldr (fun e r => gap e.1 (e.2 :: r)) (gap last [])
def pool (es : List (Nat × CpInfo)) (last : Nat) : Array CpInfo := ⟨poolList es last⟩
def fileOf (pool : Array CpInfo) (this : Nat) (attrs : Array Attribute := #[]) (ms : Array MethodInfo := #[]) (fl : Nat := 33) (sup : Nat := 0) (ifs : Array Nat := #[]) (fds : Array FieldInfo := #[]) : ClassFile where
  minorVersion := 0
  majorVersion := 65
  constantPool := pool
  accessFlags := fl
  thisClass := this
  superClass := sup
  interfaces := ifs
  fields := fds
  methods := ms
  attributes := attrs
def plain (name : String) (sup : Option ClassId) : Class where
  name := name
  kind := .ordinary
  loader := none
  accessFlags := 33
  super := sup
  interfaces := #[]
  cf := none
  fields := #[]
  methods := #[]
  instanceTypes := #[]
  staticTypes := #[]
  resolved := #[]
  callSites := []
  init := .initialized
  statics := none
  mirror := none

def pool0 : Array CpInfo := pool [(5, u "<init>"), (0, u "()V"), (1, .class_ 10), (1, u "java/lang/Object")] 113

def k0m0 : Method := { name := "<init>", desc := "()V", sig := { parameters := [], returnType := none }, accessFlags := 1, code := none }
/-- java/lang/Object -/
def k0 : Class := { plain "java/lang/Object" none with
  accessFlags := 33
  interfaces := #[]
  cf := some (fileOf pool0 8 #[] #[{ accessFlags := 1, nameIndex := 5, descriptorIndex := 6, attributes := #[] }] 33 0 #[] #[])
  fields := #[]
  methods := #[k0m0]
  instanceTypes := #[]
  staticTypes := #[]
  resolved := Array.replicate 124 none
  statics := none }

def pool1 : Array CpInfo := pool [(2, .class_ 4), (1, u "java/lang/Object"), (0, u "<init>"), (0, u "()V"), (0, .integer 1114111), (0, .integer 55296), (0, .integer 57343), (0, .integer 65534), (0, .integer 65535), (0, .integer 55295), (0, .integer 57344), (0, .integer 65533), (0, .integer 65536), (0, .integer 1114112), (2, .integer 2147483648), (0, .integer 2097151), (0, .methodref 22 23), (0, .class_ 24), (0, .nameAndType 25 26), (0, u "com/example/guarded_expansion/guardedexpansion/XmlChars"), (0, u "isChar"), (0, u "(I)Z"), (0, .methodref 28 29), (0, .class_ 30), (0, .nameAndType 31 26), (0, u "com/example/guarded_expansion/guardedexpansion/XmlCharsIsCharPinLaw"), (0, u "ref"), (3, u "law"), (0, u "(III)Z")] 4

def k1m0 : Method := { name := "<init>", desc := "()V", sig := { parameters := [], returnType := none }, accessFlags := 2, code := none }
def k1c1 : Code := { maxStack := 2, maxLocals := 1, code := method_2_code, exceptionTable := #[], attributes := #[] }
def k1m1 : Method := { name := "ref", desc := "(I)Z", sig := { parameters := [.int], returnType := some .boolean }, accessFlags := 10, code := some k1c1 }
def k1c2 : Code := { maxStack := 4, maxLocals := 9, code := code, exceptionTable := #[], attributes := #[] }
def k1m2 : Method := { name := "law", desc := "(III)Z", sig := { parameters := [.int, .int, .int], returnType := some .boolean }, accessFlags := 9, code := some k1c2 }
/-- com/example/guarded_expansion/guardedexpansion/XmlCharsIsCharPinLaw -/
def k1 : Class := { plain "com/example/guarded_expansion/guardedexpansion/XmlCharsIsCharPinLaw" (some 0) with
  accessFlags := 49
  interfaces := #[]
  cf := some (fileOf pool1 28 #[] #[{ accessFlags := 2, nameIndex := 5, descriptorIndex := 6, attributes := #[] }, { accessFlags := 10, nameIndex := 31, descriptorIndex := 26, attributes := #[] }, { accessFlags := 9, nameIndex := 35, descriptorIndex := 36, attributes := #[] }] 49 2 #[] #[])
  fields := #[]
  methods := #[k1m0, k1m1, k1m2]
  instanceTypes := #[]
  staticTypes := #[]
  resolved := Array.replicate 41 none
  statics := none }

def pool2 : Array CpInfo := pool [(2, .class_ 4), (1, u "java/lang/Object"), (0, u "<init>"), (0, u "()V"), (0, .integer 55295), (0, .integer 57344), (0, .integer 65533), (0, .integer 65536), (0, .integer 1114111), (5, .class_ 19), (1, u "com/example/guarded_expansion/guardedexpansion/XmlChars"), (0, u "ASCII_NAME_START_CHARS"), (0, u "[Z"), (2, u "ASCII_NAME_CHARS"), (7, u "(I)Z"), (49, u "isChar")] 14

def k2m0 : Method := { name := "<init>", desc := "()V", sig := { parameters := [], returnType := none }, accessFlags := 2, code := none }
def k2c1 : Code := { maxStack := 2, maxLocals := 1, code := prog_62_method_2_code, exceptionTable := #[], attributes := #[] }
def k2m1 : Method := { name := "isChar", desc := "(I)Z", sig := { parameters := [.int], returnType := some .boolean }, accessFlags := 8, code := some k2c1 }
/-- com/example/guarded_expansion/guardedexpansion/XmlChars -/
def k2 : Class := { plain "com/example/guarded_expansion/guardedexpansion/XmlChars" (some 0) with
  accessFlags := 32
  interfaces := #[]
  cf := some (fileOf pool2 17 #[] #[{ accessFlags := 2, nameIndex := 5, descriptorIndex := 6, attributes := #[] }, { accessFlags := 8, nameIndex := 82, descriptorIndex := 32, attributes := #[] }] 32 2 #[] #[{ accessFlags := 26, nameIndex := 24, descriptorIndex := 21, attributes := #[] }, { accessFlags := 26, nameIndex := 20, descriptorIndex := 21, attributes := #[] }])
  fields := #[{ name := "ASCII_NAME_CHARS", type := (.array .boolean), accessFlags := 26, slot := 0, constantValue := 0 }, { name := "ASCII_NAME_START_CHARS", type := (.array .boolean), accessFlags := 26, slot := 1, constantValue := 0 }]
  methods := #[k2m0, k2m1]
  instanceTypes := #[]
  staticTypes := #[(.array .boolean), (.array .boolean)]
  resolved := Array.replicate 97 none
  statics := none }

def pool3 : Array CpInfo := pool [(1, u "java/lang/Cloneable"), (0, .class_ 1), (0, u "java/lang/Object"), (0, .class_ 3)] 3

/-- java/lang/Cloneable -/
def k3 : Class := { plain "java/lang/Cloneable" (some 0) with
  accessFlags := 1537
  interfaces := #[]
  cf := some (fileOf pool3 2 #[] #[] 1537 4 #[] #[])
  fields := #[]
  methods := #[]
  instanceTypes := #[]
  staticTypes := #[]
  resolved := Array.replicate 8 none
  statics := none }

def pool4 : Array CpInfo := pool [(1, u "java/io/Serializable"), (0, .class_ 1), (0, u "java/lang/Object"), (0, .class_ 3)] 3

/-- java/io/Serializable -/
def k4 : Class := { plain "java/io/Serializable" (some 0) with
  accessFlags := 1537
  interfaces := #[]
  cf := some (fileOf pool4 2 #[] #[] 1537 4 #[] #[])
  fields := #[]
  methods := #[]
  instanceTypes := #[]
  staticTypes := #[]
  resolved := Array.replicate 8 none
  statics := none }

/-- the primitive byte -/
def k5 : Class := { plain "byte" none with kind := .primitive 'B', accessFlags := 0x411 }
/-- [B -/
def k6 : Class := { plain "[B" (some 0) with kind := .array 5 .byte, interfaces := #[3, 4], accessFlags := 1041 }

/-- the primitive int -/
def k7 : Class := { plain "int" none with kind := .primitive 'I', accessFlags := 0x411 }
/-- [I -/
def k8 : Class := { plain "[I" (some 0) with kind := .array 7 .int, interfaces := #[3, 4], accessFlags := 1041 }

def heap : Heap := #[]
def classes : Array Class := #[k0, k1, k2, k3, k4, k5, k6, k7, k8]
def interned : List (Array UInt16 × Addr) := []
def slotsUsed : Nat := 0
def theMethod : MethodId := ⟨1, 2⟩
def args0 : Array Value := #[.int 5, .int 3, .int 2]
def aboutOver (below : List Frame) : State where
  vm := { classes := classes, interned := interned.toArray }
  heap := heap
  slotsUsed := slotsUsed
  threads := #[{ frames := .invoking theMethod args0 :: below }]
def below0 : List Frame := [.native { method := ⟨0, 0⟩, args := #[] }]
def about1 : State := aboutOver below0
def p0 : Program := .bare "" "" ""
def e0 : Env := launch0.env 0 0 0
theorem w_frames : about1.frames = Frame.invoking theMethod args0 :: below0 := rfl
set_option maxRecDepth 65536 in
theorem w_args : argsFit about1.vm theMethod args0 = true := by decide +kernel
set_option maxRecDepth 65536 in
theorem w_heap : heapFits about1 = true := by decide +kernel
set_option maxRecDepth 65536 in
theorem w_runnable : about1.curStatus? = some .runnable := by decide +kernel
set_option maxRecDepth 65536 in
theorem w_alone : about1.alone = true := by decide +kernel
set_option maxRecDepth 65536 in
theorem w_named : about1.methodNamed? x = some theMethod := by decide +kernel
set_option maxRecDepth 65536 in
theorem w_hears : about1.hears theMethod below0 = true := by decide +kernel
set_option maxRecDepth 65536 in
theorem w_ripe : about1.ripe theMethod args0 below0 = true := by decide +kernel
theorem w_running : about1.status = .running := rfl
set_option maxRecDepth 65536 in
theorem w_room : about1.hasRoom e0.platform room_1 = true :=
  launch0.hasRoom_least _ room_1 (by decide +kernel) (by decide +kernel) (by decide +kernel) (by decide +kernel) (by decide +kernel) (by decide +kernel)
theorem allAtoms_all (ts : List Jvm.Cond) (a : Array Jvm.Value) (st : Jvm.State) : (allAtoms ts).before a st = ts.all (fun c => c.before a st) := by
  induction ts with
  | nil => rfl
  | cons c t ih =>
    show (Jvm.Cond.and c (allAtoms t)).before a st = _
    rw [Jvm.Cond.before_and, ih, List.all_cons]
def words1 : List Jvm.Cond := Jvm.Cond.code x code maxLocals ret :: tables_1
/-- a 'code' word, met by the world's own term for the bytes: nothing is compared byte by byte -/
theorem code_word {y : MethodName} {bytes : ByteArray} {mx : Nat} {rt : Option FieldType} {a : Array Value} {s : State} {m : MethodId} {meth : Method} {c : Code} (h1 : s.methodNamed? y = some m) (h2 : s.vm.method? m = some meth) (h3 : meth.code = some c) (h4 : c.code = bytes)
    (h5 : (c.maxLocals == mx && c.exceptionTable.isEmpty && decide (c.maxStack ≤ mostOperands) && decide (meth.sig.returnType = rt) && !meth.locks && decide (parseMethodDescriptor y.desc = some meth.sig)) = true) : (Jvm.Cond.code y bytes mx rt).before a s = true := by
  simp only [Bool.and_eq_true, beq_iff_eq, Bool.not_eq_true', decide_eq_true_eq] at h5
  obtain ⟨⟨⟨⟨⟨g1, g2⟩, g3⟩, g4⟩, g5⟩, g6⟩ := h5
  simp [Cond.before, Cond.holds, Cond.value, h1, h2, h3, h4, g1, g2, g3, g4, g5, g6]
def isCode : Jvm.Cond → Bool
  | .code _ _ _ _ => true
  | _ => false
theorem all_split {L : List Jvm.Cond} {P : Jvm.Cond → Bool} (h1 : L.all (fun c => isCode c || P c) = true) (h2 : ∀ c ∈ L.filter isCode, P c = true) : L.all P = true := by
  refine List.all_eq_true.mpr fun c hc => ?_
  have h := List.all_eq_true.mp h1 c hc
  rcases Bool.eq_false_or_eq_true (isCode c) with hi | hi
  · exact h2 c (List.mem_filter.mpr ⟨hc, hi⟩)
  · simpa [hi] using h
set_option maxRecDepth 65536 in
theorem w_c0 : (Jvm.Cond.code x code maxLocals ret).before args0 about1 = true := code_word (m := ⟨1, 2⟩) (meth := k1m2) (c := k1c2) (by decide +kernel) rfl rfl rfl (by decide +kernel)
set_option maxRecDepth 65536 in
theorem w_c1 : (Jvm.Cond.code ({ cls := "com/example/guarded_expansion/guardedexpansion/XmlChars", name := "isChar", desc := "(I)Z" } : Jvm.MethodName) prog_62_method_2_code (1 : Nat) (Option.some Jvm.ClassFile.FieldType.boolean)).before args0 about1 = true := code_word (m := ⟨2, 1⟩) (meth := k2m1) (c := k2c1) (by decide +kernel) rfl rfl rfl (by decide +kernel)
set_option maxRecDepth 65536 in
theorem w_c2 : (Jvm.Cond.code ({ cls := "com/example/guarded_expansion/guardedexpansion/XmlCharsIsCharPinLaw", name := "ref", desc := "(I)Z" } : Jvm.MethodName) method_2_code (1 : Nat) (Option.some Jvm.ClassFile.FieldType.boolean)).before args0 about1 = true := code_word (m := ⟨1, 1⟩) (meth := k1m1) (c := k1c1) (by decide +kernel) rfl rfl rfl (by decide +kernel)
def codes1 : List Jvm.Cond := [Jvm.Cond.code x code maxLocals ret, Jvm.Cond.code ({ cls := "com/example/guarded_expansion/guardedexpansion/XmlChars", name := "isChar", desc := "(I)Z" } : Jvm.MethodName) prog_62_method_2_code (1 : Nat) (Option.some Jvm.ClassFile.FieldType.boolean), Jvm.Cond.code ({ cls := "com/example/guarded_expansion/guardedexpansion/XmlCharsIsCharPinLaw", name := "ref", desc := "(I)Z" } : Jvm.MethodName) method_2_code (1 : Nat) (Option.some Jvm.ClassFile.FieldType.boolean)]
set_option maxRecDepth 65536 in
theorem codes_eq : words1.filter isCode = codes1 := rfl
theorem w_codes : ∀ c ∈ words1.filter isCode, c.before args0 about1 = true := by
  rw [codes_eq]
  intro c hc
  simp only [codes1, List.mem_cons, List.not_mem_nil, or_false] at hc
  rcases hc with rfl | rfl | rfl
  · exact w_c0
  · exact w_c1
  · exact w_c2
set_option maxRecDepth 65536 in
theorem w_t1 : (words1.take 24).all (fun c => isCode c || c.before args0 about1) = true := by decide +kernel
set_option maxRecDepth 65536 in
theorem w_t2 : (words1.drop 24).all (fun c => isCode c || c.before args0 about1) = true := by decide +kernel
theorem w_tables : (allAtoms (Jvm.Cond.code x code maxLocals ret :: tables_1)).before args0 about1 = true := by
  rw [allAtoms_all]
  show words1.all (fun c => c.before args0 about1) = true
  refine all_split ?_ w_codes
  rw [← List.take_append_drop 24 words1, List.all_append, w_t1, w_t2]
  rfl
set_option maxRecDepth 65536 in
theorem w_case : (Jvm.Cond.and given_1 narrow_1).before args0 about1 = true := by decide +kernel
theorem w_applies : (headSpec (Jvm.Cond.code x code maxLocals ret :: tables_1) room_1).applies x e0.platform about1 = true :=
  (Spec.applies_iff w_frames).mpr ⟨w_running, w_runnable, w_alone, w_named, w_hears, w_ripe, w_room, w_tables⟩
theorem atStart : AtStart classFile x code maxLocals ret World_1 tables_1 room_1 Calls_1 rest_1 Pre_1 launch0 p0 e0 about1 theMethod args0 below0 :=
  ⟨lists_1, trivial, launch0.admits_env _ _ _, launch0.least_env, fairChoices_fair.cas, fairChoices_fair.clock, w_frames, w_args, w_heap, w_applies, trivial, trivial, w_case⟩
end start1
theorem witness_1 : WitnessClaimed_1 := ⟨start1.p0, start1.e0, start1.about1, start1.theMethod, start1.args0, start1.below0, start1.atStart⟩
end Jvm.Pilot.@@N@@
