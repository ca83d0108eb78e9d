import JvmDerived
import JvmDerived.Pilot.@@N@@Statement
import JvmDerived.Pilot.@@N@@Code
set_option linter.unusedVariables false
set_option linter.unusedSimpArgs false
namespace Jvm.Pilot.@@N@@
open Jvm Jvm.ClassFile Sem Op Lib Jvm.Free Jvm.Stand Jvm.LawKit Jvm.RoadKit Bundle Jvm.Pilot.@@N@@.Jvm.D
/-! OWN KIT: a walk as a goal that goes forward (OGets), and a list of the fresh objects with what they hold (OView) -/
section OwnKit
variable {p : Program} {l : Launch} {e : Env} {R : Room} {s : State} {m : MethodId} {args : Array Value} {below : List Frame} {meth : Method} {c : Code} {T : State} {locs : List Loc} {cells slots : Nat} {Z : State} {a0 : Array Value} {h h' : Heap} {n0 : Nat}
/-- from U the run comes to an end that P allows -/
def OGets (p : Program) (e : Env) (below : List Frame) (P : State → Outcome → Prop) (U : State) : Prop := ∃ s₂ o, Steps p.tables e below U s₂ ∧ s₂.status = .running ∧ Ended s₂ below o ∧ P s₂ o
def OLeaves (s : State) (Q : Option Value → Heap → List Loc → Prop) (k n : Nat) (t : State) (o : Outcome) : Prop := ∃ v L, o = .returned v ∧ Q v t.heap L ∧ FrameEnd s o t L k n
theorem OGets.step {P : State → Outcome → Prop} {U U' : State} (k : ∀ t, Steps p.tables e below U' t → Steps p.tables e below U t) (g : OGets p e below P U') : OGets p e below P U := by
  obtain ⟨t, o, h1, h2⟩ := g
  exact ⟨t, o, k t h1, h2⟩
theorem OGets.after {P : State → Outcome → Prop} {U U' : State} (k : Steps p.tables e below U U') (g : OGets p e below P U') : OGets p e below P U := by
  obtain ⟨t, o, h1, h2⟩ := g
  exact ⟨t, o, k.trans h1, h2⟩
theorem OGets.enter {P : State → Outcome → Prop} {g g' : JFrame} (q : g = g') (k : OGets p e below P (T.setTop g')) : OGets p e below P (T.setTop g) := q ▸ k
theorem OGets.cut {P : State → Outcome → Prop} {U U' : State} (k : OGets p e below P U') (f : OGets p e below P U' → OGets p e below P U) : OGets p e below P U := f k
theorem OGets.retN (X : Stand p l e R s m args below meth c T locs cells slots) (hx : p.tables.exec = Jvm.exec) (hk : meth.locks = false) {t : FieldType} (hret : meth.sig.returnType = some t) (ht : t = .boolean ∨ t = .byte ∨ t = .char ∨ t = .short) {pc : Nat} {Ls : Array Slot} {z : Int32} {rest : List Value}
    (hd : decode c.code pc = .ok (.ireturn, 1)) {Q : Option Value → Heap → List Loc → Prop} {k n : Nat} (hc : cells ≤ k) (hs : slots ≤ n) (hQ : Q (some (.int (nar t z))) T.heap locs) : OGets p e below (OLeaves s Q k n) (T.setTop (mkF m pc Ls (.int z :: rest))) := by
  obtain ⟨fs, hr, hrun, hended, hW, hsame⟩ := X.leave (v := some (.int (nar t z))) (fun h => by rw [hret] at h; cases h) hk
  exact ⟨_, _, Jvm.RoadKit.retN X hx hret ht hd hr, hrun, hended, _, _, rfl, hQ, ⟨_, rfl⟩, hW, hsame.mono hc hs⟩
theorem OGets.retI (X : Stand p l e R s m args below meth c T locs cells slots) (hx : p.tables.exec = Jvm.exec) (hk : meth.locks = false) (hret : meth.sig.returnType = some .int) {pc : Nat} {Ls : Array Slot} {z : Int32} {rest : List Value}
    (hd : decode c.code pc = .ok (.ireturn, 1)) {Q : Option Value → Heap → List Loc → Prop} {k n : Nat} (hc : cells ≤ k) (hs : slots ≤ n) (hQ : Q (some (.int z)) T.heap locs) : OGets p e below (OLeaves s Q k n) (T.setTop (mkF m pc Ls (.int z :: rest))) := by
  obtain ⟨fs, hr, hrun, hended, hW, hsame⟩ := X.leave (v := some (.int z)) (fun h => by rw [hret] at h; cases h) hk
  exact ⟨_, _, Jvm.RoadKit.retOut X hx hret rfl (Or.inl ⟨rfl, Or.inl rfl, _, rfl⟩) hd hr, hrun, hended, _, _, rfl, hQ, ⟨_, rfl⟩, hW, hsame.mono hc hs⟩
theorem OGets.retJ (X : Stand p l e R s m args below meth c T locs cells slots) (hx : p.tables.exec = Jvm.exec) (hk : meth.locks = false) (hret : meth.sig.returnType = some .long) {pc : Nat} {Ls : Array Slot} {z : Int64} {rest : List Value}
    (hd : decode c.code pc = .ok (.lreturn, 1)) {Q : Option Value → Heap → List Loc → Prop} {k n : Nat} (hc : cells ≤ k) (hs : slots ≤ n) (hQ : Q (some (.long z)) T.heap locs) : OGets p e below (OLeaves s Q k n) (T.setTop (mkF m pc Ls (.long z :: rest))) := by
  obtain ⟨fs, hr, hrun, hended, hW, hsame⟩ := X.leave (v := some (.long z)) (fun h => by rw [hret] at h; cases h) hk
  exact ⟨_, _, Jvm.RoadKit.retOut X hx hret rfl (Or.inr (Or.inl ⟨rfl, rfl, _, rfl⟩)) hd hr, hrun, hended, _, _, rfl, hQ, ⟨_, rfl⟩, hW, hsame.mono hc hs⟩
theorem OGets.retA (X : Stand p l e R s m args below meth c T locs cells slots) (hx : p.tables.exec = Jvm.exec) (hk : meth.locks = false) {t : FieldType} (hret : meth.sig.returnType = some t) (ht : t.isReference = true) {pc : Nat} {Ls : Array Slot} {w : Value} {rest : List Value} (hw : w.isRef = true) (hn : narrow t w = w)
    (hd : decode c.code pc = .ok (.areturn, 1)) {Q : Option Value → Heap → List Loc → Prop} {k n : Nat} (hc : cells ≤ k) (hs : slots ≤ n) (hQ : Q (some w) T.heap locs) : OGets p e below (OLeaves s Q k n) (T.setTop (mkF m pc Ls (w :: rest))) := by
  obtain ⟨fs, hr, hrun, hended, hW, hsame⟩ := X.leave (v := some w) (fun h => by rw [hret] at h; cases h) hk
  exact ⟨_, _, Jvm.RoadKit.retOut X hx hret hn (Or.inr (Or.inr (Or.inr (Or.inr ⟨rfl, ht, hw⟩)))) hd hr, hrun, hended, _, _, rfl, hQ, ⟨_, rfl⟩, hW, hsame.mono hc hs⟩
theorem OGets.retV (X : Stand p l e R s m args below meth c T locs cells slots) (hx : p.tables.exec = Jvm.exec) (hk : meth.locks = false) (hret : meth.sig.returnType = none) {pc : Nat} {Ls : Array Slot}
    (hd : decode c.code pc = .ok (.return_, 1)) {Q : Option Value → Heap → List Loc → Prop} {k n : Nat} (hc : cells ≤ k) (hs : slots ≤ n) (hQ : Q none T.heap locs) : OGets p e below (OLeaves s Q k n) (T.setTop (mkF m pc Ls [])) := by
  obtain ⟨fs, hr, hrun, hended, hW, hsame⟩ := X.leave (v := none) (fun _ => rfl) hk
  exact ⟨_, _, X.returnOut hx hret hd hr, hrun, hended, _, _, rfl, hQ, ⟨_, rfl⟩, hW, hsame.mono hc hs⟩
/-- an object (class, fields, their values) or an array (what it is of, its components) -/
abbrev OObj : Type := Sum (String × List (String × String × String) × List Value) (FieldType × List Value)
def OHold (Z : State) (h : Heap) (a : Addr) (o : OObj) : Prop :=
  (∀ q, o = Sum.inl q → Exa Z h a q.1 ∧ q.2.1.Pairwise (fun x y => Jvm.RoadKit.slotOf Z x.1 x.2.1 x.2.2 ≠ Jvm.RoadKit.slotOf Z y.1 y.2.1 y.2.2) ∧ ∀ (j : Nat) (k : String × String × String) (v : Value), q.2.1[j]? = some k → q.2.2[j]? = some v → Fld Z h a k.1 k.2.1 k.2.2 v) ∧
  (∀ q, o = Sum.inr q → ∃ cl : Cell, Arr Z h a cl q.1 ∧ cl.slots.toList = q.2)
variable {a b : Addr} {o : OObj} {sl : Nat} {v : Value} {os : List (Addr × OObj)} {C : String} {ns : List (String × String × String)} {vs : List Value} {ty : FieldType}
theorem OHold.other (W : Wr h h' a sl v) (hne : b ≠ a) (H : OHold Z h b o) : OHold Z h' b o := by
  refine ⟨fun q hq => ?_, fun q hq => ?_⟩
  · obtain ⟨h1, h2, h3⟩ := H.1 q hq
    exact ⟨h1.wr W, h2, fun j k w e1 e2 => (h3 j k w e1 e2).other W (Or.inl hne)⟩
  · obtain ⟨cl, h1, h2⟩ := H.2 q hq
    exact ⟨cl, h1.other W hne, h2⟩
theorem OHold.ext (E : Ext h h') (H : OHold Z h b o) : OHold Z h' b o := by
  refine ⟨fun q hq => ?_, fun q hq => ?_⟩
  · obtain ⟨h1, h2, h3⟩ := H.1 q hq
    exact ⟨h1.ext E, h2, fun j k w e1 e2 => (h3 j k w e1 e2).ext E⟩
  · obtain ⟨cl, h1, h2⟩ := H.2 q hq
    exact ⟨cl, h1.ext E, h2⟩
theorem OHold.obj (h1 : Exa Z h a C) (h2 : ns.Pairwise (fun x y => Jvm.RoadKit.slotOf Z x.1 x.2.1 x.2.2 ≠ Jvm.RoadKit.slotOf Z y.1 y.2.1 y.2.2)) (h3 : ∀ (j : Nat) (k : String × String × String) (v : Value), ns[j]? = some k → vs[j]? = some v → Fld Z h a k.1 k.2.1 k.2.2 v) : OHold Z h a (Sum.inl (C, ns, vs)) :=
  ⟨fun q hq => (by cases hq; exact ⟨h1, h2, h3⟩), fun q hq => (by cases hq)⟩
theorem OHold.arr {cl : Cell} (h1 : Arr Z h a cl ty) (h2 : cl.slots.toList = vs) : OHold Z h a (Sum.inr (ty, vs)) :=
  ⟨fun q hq => (by cases hq), fun q hq => (by cases hq; exact ⟨cl, h1, h2⟩)⟩
theorem OHold.putF (H : OHold Z h a (Sum.inl (C, ns, vs))) {j : Nat} {k : String × String × String} (hj : ns[j]? = some k) (W : Wr h h' a (Jvm.RoadKit.slotOf Z k.1 k.2.1 k.2.2) v) : OHold Z h' a (Sum.inl (C, ns, vs.set j v)) := by
  obtain ⟨h1, h2, h3⟩ := H.1 _ rfl
  refine OHold.obj (h1.wr W) h2 fun i k' w e1 e2 => ?_
  by_cases q : j = i
  · subst q
    rw [hj] at e1; cases e1
    rw [List.getElem?_set] at e2
    split at e2
    · split at e2
      · rename_i hlt
        cases e2
        exact (h3 j k _ hj (List.getElem?_eq_getElem hlt)).same W
      · cases e2
    · exact absurd rfl ‹_›
  · rw [List.getElem?_set_ne q] at e2
    refine (h3 i k' w e1 e2).other W (Or.inr ?_)
    obtain ⟨hi, e1⟩ := List.getElem?_eq_some_iff.mp e1
    obtain ⟨hj', hj⟩ := List.getElem?_eq_some_iff.mp hj
    have P := List.pairwise_iff_getElem.mp h2
    subst e1 hj
    rcases Nat.lt_or_gt_of_ne q with q | q
    · exact (P j i hj' hi q).symm
    · exact P i j hi hj' q
theorem OHold.putA (H : OHold Z h a (Sum.inr (ty, vs))) {j : Nat} (W : Wr h h' a j v) : OHold Z h' a (Sum.inr (ty, vs.set j v)) := by
  obtain ⟨cl, h1, h2⟩ := H.2 _ rfl
  exact OHold.arr (h1.same W) (by show (cl.slots.setIfInBounds j v).toList = vs.set j v; rw [Array.toList_setIfInBounds]; exact congrArg (fun z => z.set j v) h2)
/-- the objects made since the law began, as a list: no two at one place, none old, each as said -/
def OView (Z : State) (n0 : Nat) (h : Heap) (os : List (Addr × OObj)) : Prop := (os.map (·.1)).Nodup ∧ ∀ q ∈ os, n0 ≤ q.1 ∧ q.1 < h.size ∧ OHold Z h q.1 q.2
theorem OView.nil (Z : State) (n0 : Nat) (h : Heap) : OView Z n0 h [] := ⟨List.nodup_nil, fun q hq => by cases hq⟩
theorem OView.perm {os' : List (Addr × OObj)} (V : OView Z n0 h os) (P : os.Perm os') : OView Z n0 h os' := ⟨(P.map _).nodup_iff.mp V.1, fun q hq => V.2 q (P.mem_iff.mpr hq)⟩
theorem own_bring {α : Type} : ∀ (os : List α) (i : Nat) (q : α), os[i]? = some q → os.Perm (q :: os.eraseIdx i)
  | [], i, q, hq => by cases hq
  | x :: t, 0, q, hq => by cases hq; exact List.Perm.refl _
  | x :: t, i + 1, q, hq => (List.Perm.cons x (own_bring t i q hq)).trans (List.Perm.swap q x _)
theorem own_set {α : Type} : ∀ (os : List α) (i : Nat) (q r : α), os[i]? = some q → (r :: os.eraseIdx i).Perm (os.set i r)
  | [], i, q, r, hq => by cases hq
  | x :: t, 0, q, r, hq => List.Perm.refl _
  | x :: t, i + 1, q, r, hq => (List.Perm.swap x r _).trans (List.Perm.cons x (own_set t i q r hq))
theorem OView.bring (V : OView Z n0 h os) (i : Nat) {q : Addr × OObj} (hq : os[i]? = some q) : OView Z n0 h (q :: os.eraseIdx i) := V.perm (own_bring os i q hq)
theorem OView.at (V : OView Z n0 h os) (i : Nat) {q : Addr × OObj} (hq : os[i]? = some q) : n0 ≤ q.1 ∧ q.1 < h.size ∧ OHold Z h q.1 q.2 := V.2 q (List.mem_of_getElem? hq)
theorem OView.old (V : OView Z n0 h os) (i : Nat) {a : Addr} {o : OObj} (hq : os[i]? = some (a, o)) : n0 ≤ a := (V.at i hq).1
theorem OView.big (V : OView Z n0 h os) (i : Nat) {q : Addr × OObj} (hq : os[i]? = some q) : n0 ≤ h.size := Nat.le_trans (V.at i hq).1 (Nat.le_of_lt (V.at i hq).2.1)
theorem OView.exa (V : OView Z n0 h os) (i : Nat) {a : Addr} (hq : os[i]? = some (a, Sum.inl (C, ns, vs))) : Exa Z h a C := ((V.at i hq).2.2.1 _ rfl).1
theorem OView.fld (V : OView Z n0 h os) (i : Nat) {a : Addr} (hq : os[i]? = some (a, Sum.inl (C, ns, vs))) (j : Nat) {O n d : String} (hj : ns[j]? = some (O, n, d)) (hv : vs[j]? = some v) : Fld Z h a O n d v := ((V.at i hq).2.2.1 _ rfl).2.2 j _ v hj hv
theorem OView.arr (V : OView Z n0 h os) (i : Nat) {a : Addr} (hq : os[i]? = some (a, Sum.inr (ty, vs))) : ∃ cl : Cell, Arr Z h a cl ty ∧ cl.slots.toList = vs := (V.at i hq).2.2.2 _ rfl
theorem OView.up (V : OView Z n0 h os) (W : Wr h h' a sl v) (i : Nat) {o o' : OObj} (hq : os[i]? = some (a, o)) (H : OHold Z h' a o') : OView Z n0 h' (os.set i (a, o')) := by
  have V1 := V.bring i hq
  have V2 : OView Z n0 h' ((a, o') :: os.eraseIdx i) := by
    refine ⟨V1.1, fun q hq' => ?_⟩
    rcases List.mem_cons.mp hq' with rfl | hq'
    · exact ⟨(V.at i hq).1, by rw [W.size]; exact (V.at i hq).2.1, H⟩
    · obtain ⟨h1, h2, h3⟩ := V1.2 q (List.mem_cons_of_mem _ hq')
      refine ⟨h1, by rw [W.size]; exact h2, h3.other W fun e => ?_⟩
      have := (List.nodup_cons.mp V1.1).1
      exact this (List.mem_map.mpr ⟨q, hq', e⟩)
  exact V2.perm (own_set os i _ _ hq)
theorem OView.putF (V : OView Z n0 h os) (i : Nat) (hq : os[i]? = some (a, Sum.inl (C, ns, vs))) (j : Nat) {O n d : String} (hj : ns[j]? = some (O, n, d)) (W : Wr h h' a (Jvm.RoadKit.slotOf Z O n d) v) : OView Z n0 h' (os.set i (a, Sum.inl (C, ns, vs.set j v))) := V.up W i hq ((V.at i hq).2.2.putF hj W)
theorem OView.putA (V : OView Z n0 h os) (i : Nat) (hq : os[i]? = some (a, Sum.inr (ty, vs))) {j : Nat} (W : Wr h h' a j v) : OView Z n0 h' (os.set i (a, Sum.inr (ty, vs.set j v))) := V.up W i hq ((V.at i hq).2.2.putA W)
theorem OView.ext (V : OView Z n0 h os) (E : Ext h h') : OView Z n0 h' os := ⟨V.1, fun q hq => ⟨(V.2 q hq).1, Nat.lt_of_lt_of_le (V.2 q hq).2.1 E.1, (V.2 q hq).2.2.ext E⟩⟩
theorem OView.cons (V : OView Z n0 h os) (hn : n0 ≤ h.size) (E : Ext h h') (hlt : h.size < h'.size) (H : OHold Z h' h.size o) : OView Z n0 h' ((h.size, o) :: os) := by
  refine ⟨List.nodup_cons.mpr ⟨fun hm => ?_, V.1⟩, fun q hq => ?_⟩
  · obtain ⟨q, h1, h2⟩ := List.mem_map.mp hm
    exact Nat.lt_irrefl _ (h2 ▸ (V.2 q h1).2.1)
  · rcases List.mem_cons.mp hq with rfl | hq
    · exact ⟨hn, hlt, H⟩
    · exact (V.ext E).2 q hq
theorem own_pair (hL : ∀ x ∈ ns, Laid Z a0 C x.1 x.2.1 x.2.2) (hd : ∀ x ∈ ns, (parseFieldDescriptor x.2.2).isSome = true) (hn : ns.Pairwise (fun x y => x.2.1 ≠ y.2.1)) : ns.Pairwise (fun x y => Jvm.RoadKit.slotOf Z x.1 x.2.1 x.2.2 ≠ Jvm.RoadKit.slotOf Z y.1 y.2.1 y.2.2) :=
  hn.imp_of_mem fun {x y} hx hy hne => by
    obtain ⟨t, ht⟩ := Option.isSome_iff_exists.mp (hd x hx)
    obtain ⟨t', ht'⟩ := Option.isSome_iff_exists.mp (hd y hy)
    exact slot_ne (hL x hx) (hL y hy) hne ht ht'
/-- a fresh object, as 'new' leaves it -/
theorem OView.newObj (V : OView Z n0 h os) (hn : n0 ≤ h.size) (E : Ext h h') (A : Exa Z h' h.size C) (D : ∀ {O nm d : String} {ty : FieldType}, Laid Z a0 C O nm d → parseFieldDescriptor d = some ty → Fld Z h' h.size O nm d (defaultValue ty))
    (hL : ∀ x ∈ ns, Laid Z a0 C x.1 x.2.1 x.2.2) (hd : ns.map (fun x => (parseFieldDescriptor x.2.2).map defaultValue) = vs.map some) (hnm : ns.Pairwise (fun x y => x.2.1 ≠ y.2.1)) : OView Z n0 h' ((h.size, Sum.inl (C, ns, vs)) :: os) := by
  have hs : ∀ x ∈ ns, (parseFieldDescriptor x.2.2).isSome = true := fun x hx => by
    have h1 : (parseFieldDescriptor x.2.2).map defaultValue ∈ vs.map some := hd ▸ List.mem_map.mpr ⟨x, hx, rfl⟩
    obtain ⟨w, -, h2⟩ := List.mem_map.mp h1
    cases hp : parseFieldDescriptor x.2.2 with
    | none => rw [hp] at h2; cases h2
    | some t => rfl
  refine V.cons hn E A.lt (OHold.obj A (own_pair hL hs hnm) fun j k w e1 e2 => ?_)
  have h1 : (ns.map (fun x => (parseFieldDescriptor x.2.2).map defaultValue))[j]? = some ((parseFieldDescriptor k.2.2).map defaultValue) := by rw [List.getElem?_map, e1]; rfl
  have h2 : (vs.map some)[j]? = some (some w) := by rw [List.getElem?_map, e2]; rfl
  rw [hd, h2] at h1
  have h3 := Option.some.inj h1
  cases hp : parseFieldDescriptor k.2.2 with
  | none => rw [hp] at h3; cases h3
  | some t =>
    rw [hp] at h3
    cases Option.some.inj h3
    exact D (hL k (List.mem_of_getElem? e1)) hp
/-- a fresh array -/
theorem OView.newArr (V : OView Z n0 h os) (hn : n0 ≤ h.size) (E : Ext h h') {cA : ClassId} {z : Int32} (A : Arr Z h' h.size (newA cA ty z) ty) (k : Nat) (hk : z.toNatClampNeg = k) : OView Z n0 h' ((h.size, Sum.inr (ty, List.replicate k (defaultValue ty))) :: os) := by
  refine V.cons hn E A.lt (OHold.arr A ?_)
  rw [← hk]; simp [newA]
theorem own_inb {cl : Cell} {vs : List Value} (hs : cl.slots.toList = vs) {j : Int32} (k : Nat) (hj : j.toInt = (k : Int)) (hk : k < vs.length) : ¬ (j < 0 ∨ cl.slots.size ≤ j.toNatClampNeg) := by
  have h1 : cl.slots.size = vs.length := by rw [← hs]; simp
  have e0 : (0 : Int32).toInt = 0 := rfl
  rw [h1]
  simp only [Int32.lt_iff_toInt_lt, Int32.toNatClampNeg, hj, e0]
  omega
theorem own_clamp {j : Int32} (k : Nat) (hj : j.toInt = (k : Int)) : j.toNatClampNeg = k := by simp only [Int32.toNatClampNeg, hj]; omega
theorem own_get {cl : Cell} {vs : List Value} (hs : cl.slots.toList = vs) {j : Int32} (k : Nat) (hj : j.toInt = (k : Int)) {v : Value} (hv : vs[k]? = some v) : cl.slots[j.toNatClampNeg]? = some v := by
  rw [own_clamp k hj, ← Array.getElem?_toList, hs]; exact hv
theorem own_wr {vs : List Value} {j : Int32} (k : Nat) (hj : j.toInt = (k : Int)) (W : Wr h h' a j.toNatClampNeg v) : Wr h h' a k v := by rw [own_clamp k hj] at W; exact W
theorem own_len {cl : Cell} {vs : List Value} (hs : cl.slots.toList = vs) : cl.slots.size = vs.length := by rw [← hs]; simp
end OwnKit
def ns_Amplification : List (String × String × String) := [("com/example/guarded_expansion/guardedexpansion/Amplification", "limit", "D"), ("com/example/guarded_expansion/guardedexpansion/Amplification", "threshold", "J"), ("com/example/guarded_expansion/guardedexpansion/Amplification", "characters", "J"), ("com/example/guarded_expansion/guardedexpansion/Amplification", "bytes", "J")]
theorem lay_ns_Amplification {Z : State} {a0 : Array Value} (hw : ∀ d ∈ tables_1, d.before a0 Z = true) : ∀ x ∈ ns_Amplification, Laid Z a0 "com/example/guarded_expansion/guardedexpansion/Amplification" x.1 x.2.1 x.2.2 := by
  intro x hx
  simp only [ns_Amplification, List.mem_cons, List.not_mem_nil, or_false] at hx
  rcases hx with rfl | rfl | rfl | rfl
  · exact Or.inr (hw _ (List.mem_of_getElem? (i := 10) rfl))
  · exact Or.inr (hw _ (List.mem_of_getElem? (i := 12) rfl))
  · exact Or.inl (hw _ (List.mem_of_getElem? (i := 19) rfl))
  · exact Or.inl (hw _ (List.mem_of_getElem? (i := 25) rfl))
theorem pn_0 : plainName "com/example/guarded_expansion/guardedexpansion/Amplification" = true := by first | (simp [plainName, overriddenIn]; done) | decide +kernel
theorem d1m1_0 : decode prog_1_method_1_code 0 = .ok (.aload_n 0, 1) := by decide +kernel
theorem d1m1_1 : decode prog_1_method_1_code 1 = .ok (.invokespecial 1, 3) := by decide +kernel
theorem d1m1_4 : decode prog_1_method_1_code 4 = .ok (.aload_n 0, 1) := by decide +kernel
theorem d1m1_5 : decode prog_1_method_1_code 5 = .ok (.dload_n 1, 1) := by decide +kernel
theorem d1m1_6 : decode prog_1_method_1_code 6 = .ok (.putfield 7, 3) := by decide +kernel
theorem d1m1_9 : decode prog_1_method_1_code 9 = .ok (.aload_n 0, 1) := by decide +kernel
theorem d1m1_10 : decode prog_1_method_1_code 10 = .ok (.lload_n 3, 1) := by decide +kernel
theorem d1m1_11 : decode prog_1_method_1_code 11 = .ok (.putfield 13, 3) := by decide +kernel
theorem d1m1_14 : decode prog_1_method_1_code 14 = .ok (.return_, 1) := by decide +kernel
theorem ef_init (m : MethodId) (x0 : Addr) (x1 : UInt64) (x2 : Int64) : entryFrame m #[(.ref x0), (.double x1), (.long x2)] 5 = mkF m 0 #[.val (.ref x0), .val (.double x1), .second, .val (.long x2), .second] [] := by first | (simp [entryFrame, mkF, argsToLocals, Value.category]; done) | rfl
def Q_init (Z : State) (a : Addr) (d : UInt64) (t : Int64) (h0 : Heap) (n0 : Nat) (F : List (Addr × OObj)) (v : Option Value) (h : Heap) (L : List Loc) : Prop := v = none ∧ Fr n0 L ∧ OView Z n0 h (((a, Sum.inl ("com/example/guarded_expansion/guardedexpansion/Amplification", ns_Amplification, [(.double d), (.long t), (.long (0 : Int64)), (.long (0 : Int64))])) : Addr × OObj) :: F)
set_option maxRecDepth 65536 in
set_option maxHeartbeats 40000000 in
theorem rm_init (l : Launch) (Z : State) (a0 : Array Value) (hw : ∀ d ∈ tables_1, d.before a0 Z = true) (ws : List Jvm.Cond) (a : Addr) (d : UInt64) (t : Int64) (h0 : Heap) (n0 : Nat) (F : List (Addr × OObj)) (Z0 : n0 ≤ h0.size) (V0 : OView Z n0 h0 (((a, Sum.inl ("com/example/guarded_expansion/guardedexpansion/Amplification", ns_Amplification, [(.double 0), (.long (0 : Int64)), (.long (0 : Int64)), (.long (0 : Int64))])) : Addr × OObj) :: F)) :
    MetFree l (⟨"com/example/guarded_expansion/guardedexpansion/Amplification", "<init>", "(DJ)V"⟩ : MethodName) (head1 (Jvm.Cond.code (⟨"com/example/guarded_expansion/guardedexpansion/Amplification", "<init>", "(DJ)V"⟩ : MethodName) prog_1_method_1_code 5 none :: ws) ({ frames := 1, cells := 0, slots := 0, locals := 12 } : Room)) (fun a_ U => a_ = #[(.ref a), (.double d), (.long t)] ∧ Z.Warmed39 U.vm ∧ U.heap = h0) (fun _ _ _ _ _ => True) (fun _ U o U' => ∃ v L, o = .returned v ∧ Q_init Z a d t h0 n0 F v U'.heap L ∧ FrameEnd U o U' L ({ frames := 1, cells := 0, slots := 0, locals := 12 } : Room).cells ({ frames := 1, cells := 0, slots := 0, locals := 12 } : Room).slots) := by
  refine MetFree.of_bodySF (plainFor_of_name pn_0) hisR ?_
  intro p e s m args below meth c s₁ Bd hml0 hP hK
  obtain ⟨rfl, hZ, hh⟩ := hP
  have hx := Bd.exec
  have hby := Bd.bytes
  have hlk : meth.locks = false := Bd.notSynchronized
  have hml : c.maxLocals = 5 := hml0
  have hown : s.vm.findClass "com/example/guarded_expansion/guardedexpansion/Amplification" = some m.cls := findClass_of_methodNamed Bd.named
  have hnm := (name_of_methodNamed Bd.named Bd.method).1
  have X0 : Stand p l e ({ frames := 1, cells := 0, slots := 0, locals := 12 } : Room) s m #[(.ref a), (.double d), (.long t)] below meth c s₁ [] 0 0 := Stand.of_body Bd
  have e0 : s₁.heap = h0 := by rw [← hh, Bd.state]; rfl
  have N0 := Fr.nil n0
  show OGets p e below (OLeaves s (Q_init Z a d t h0 n0 F ) ({ frames := 1, cells := 0, slots := 0, locals := 12 } : Room).cells ({ frames := 1, cells := 0, slots := 0, locals := 12 } : Room).slots) _
  refine OGets.enter (ef_init m a d t) ?_
  show OGets p e below _ (s₁.setTop (mkF m 0 #[.val (.ref a), .val (.double d), .second, .val (.long t), .second] []))
  refine OGets.step (fun _ => XS.aloadN X0.here hx rfl (hb hby d1m1_0) rfl rfl) ?_
  show OGets p e below _ (s₁.setTop (mkF m 1 #[.val (.ref a), .val (.double d), .second, .val (.long t), .second] [(.ref a)]))
  obtain ⟨T1, X1, e1, st1⟩ := initO X0 hx hZ hown (hw _ (List.mem_of_getElem? (i := 6) rfl)) (hw _ (List.mem_of_getElem? (i := 7) rfl)) (hw _ (List.mem_of_getElem? (i := 8) rfl)) e0 (g := (mkF m 1 #[.val (.ref a), .val (.double d), .second, .val (.long t), .second] [(.ref a)])) rfl (by rw [hml]; rfl) rfl (hb hby d1m1_1) (by decide) (W := 0) (by show 2 * 0 + _ ≤ _; exact Nat.le_of_eq rfl) (by decide)
  refine OGets.step st1 ?_
  show OGets p e below _ (T1.setTop (mkF m 4 #[.val (.ref a), .val (.double d), .second, .val (.long t), .second] []))
  refine OGets.step (fun _ => XS.aloadN X1.here hx rfl (hb hby d1m1_4) rfl rfl) ?_
  show OGets p e below _ (T1.setTop (mkF m 5 #[.val (.ref a), .val (.double d), .second, .val (.long t), .second] [(.ref a)]))
  refine OGets.step (fun _ => XS.dloadN X1.here hx rfl (hb hby d1m1_5) rfl) ?_
  show OGets p e below _ (T1.setTop (mkF m 6 #[.val (.ref a), .val (.double d), .second, .val (.long t), .second] [(.double d), (.ref a)]))
  obtain ⟨T2, h2, X2, e2, W2, st2⟩ := putF X1 hx hZ hown (host := "") (Or.inl (hw _ (List.mem_of_getElem? (i := 9) rfl))) Via.refl e1 (V0.fld 0 rfl 0 rfl rfl) (V0.exa 0 rfl) (Or.inr ⟨(hw _ (List.mem_of_getElem? (i := 10) rfl)), rfl, hnm⟩) (hw _ (List.mem_of_getElem? (i := 1) rfl)) (ty := .double) (by decide) rfl rfl (g := (mkF m 6 #[.val (.ref a), .val (.double d), .second, .val (.long t), .second] [(.double d), (.ref a)])) rfl rfl (hb hby d1m1_6)
  have V2 : OView Z n0 h2 (((a, Sum.inl ("com/example/guarded_expansion/guardedexpansion/Amplification", ns_Amplification, [(.double d), (.long (0 : Int64)), (.long (0 : Int64)), (.long (0 : Int64))])) : Addr × OObj) :: F) := V0.putF 0 rfl 0 rfl W2
  have N2 := Fr.snoc X2 N0 (V0.old 0 rfl)
  have Z2 : n0 ≤ h2.size := by rw [W2.size]; exact Z0
  refine OGets.step st2 ?_
  show OGets p e below _ (T2.setTop (mkF m 9 #[.val (.ref a), .val (.double d), .second, .val (.long t), .second] []))
  refine OGets.step (fun _ => XS.aloadN X2.here hx rfl (hb hby d1m1_9) rfl rfl) ?_
  show OGets p e below _ (T2.setTop (mkF m 10 #[.val (.ref a), .val (.double d), .second, .val (.long t), .second] [(.ref a)]))
  refine OGets.step (fun _ => XS.lloadN X2.here hx rfl (hb hby d1m1_10) rfl) ?_
  show OGets p e below _ (T2.setTop (mkF m 11 #[.val (.ref a), .val (.double d), .second, .val (.long t), .second] [(.long t), (.ref a)]))
  obtain ⟨T3, h3, X3, e3, W3, st3⟩ := putF X2 hx hZ hown (host := "") (Or.inl (hw _ (List.mem_of_getElem? (i := 11) rfl))) Via.refl e2 (V2.fld 0 rfl 1 rfl rfl) (V2.exa 0 rfl) (Or.inr ⟨(hw _ (List.mem_of_getElem? (i := 12) rfl)), rfl, hnm⟩) (hw _ (List.mem_of_getElem? (i := 1) rfl)) (ty := .long) (by decide) rfl rfl (g := (mkF m 11 #[.val (.ref a), .val (.double d), .second, .val (.long t), .second] [(.long t), (.ref a)])) rfl rfl (hb hby d1m1_11)
  have V3 : OView Z n0 h3 (((a, Sum.inl ("com/example/guarded_expansion/guardedexpansion/Amplification", ns_Amplification, [(.double d), (.long t), (.long (0 : Int64)), (.long (0 : Int64))])) : Addr × OObj) :: F) := V2.putF 0 rfl 1 rfl W3
  have N3 := Fr.snoc X3 N2 (V2.old 0 rfl)
  have Z3 : n0 ≤ h3.size := by rw [W3.size]; exact Z2
  refine OGets.step st3 ?_
  show OGets p e below _ (T3.setTop (mkF m 14 #[.val (.ref a), .val (.double d), .second, .val (.long t), .second] []))
  refine OGets.retV X3 hx hlk Bd.returns (hb hby d1m1_14) (Nat.le_of_ble_eq_true rfl) (Nat.le_of_ble_eq_true rfl) ?_
  rw [e3]
  exact ⟨rfl, N3, V3⟩
def f_refc_12 (p0 : Int64) (p1 : Int64) : Int32 := (1 : Int32)
def f_refc (p0 : Int64) (p1 : Int64) : Int32 := (if p1 < p0 then (if (0 : Int64) < p0 then (0 : Int32) else f_refc_12 p0 p1) else f_refc_12 p0 p1)
theorem dm2_12 : decode method_2_code 12 = .ok (.iconst 1, 1) := by decide +kernel
theorem dm2_13 : decode method_2_code 13 = .ok (.goto 4, 3) := by decide +kernel
theorem dm2_17 : decode method_2_code 17 = .ok (.ireturn, 1) := by decide +kernel
theorem pn_1 : plainName "com/example/guarded_expansion/guardedexpansion/AmplificationExpandPinLaw" = true := by first | (simp [plainName, overriddenIn]; done) | decide +kernel
theorem dm2_0 : decode method_2_code 0 = .ok (.lload_n 0, 1) := by decide +kernel
theorem dm2_1 : decode method_2_code 1 = .ok (.lload_n 2, 1) := by decide +kernel
theorem dm2_2 : decode method_2_code 2 = .ok (.lcmp, 1) := by decide +kernel
theorem dm2_3 : decode method_2_code 3 = .ok (.ifCond .le 9, 3) := by decide +kernel
theorem dm2_6 : decode method_2_code 6 = .ok (.lload_n 0, 1) := by decide +kernel
theorem dm2_7 : decode method_2_code 7 = .ok (.lconst 0, 1) := by decide +kernel
theorem dm2_8 : decode method_2_code 8 = .ok (.lcmp, 1) := by decide +kernel
theorem dm2_9 : decode method_2_code 9 = .ok (.ifCond .gt 7, 3) := by decide +kernel
theorem dm2_16 : decode method_2_code 16 = .ok (.iconst 0, 1) := by decide +kernel
theorem ef_refc (m : MethodId) (x0 : Int64) (x1 : Int64) : entryFrame m #[(.long x0), (.long x1)] 4 = mkF m 0 #[.val (.long x0), .second, .val (.long x1), .second] [] := by first | (simp [entryFrame, mkF, argsToLocals, Value.category]; done) | rfl
def Q_refc (Z : State) (p0 : Int64) (p1 : Int64) (h0 : Heap) (n0 : Nat) (v : Option Value) (h : Heap) (L : List Loc) : Prop := v = some (.int (f_refc p0 p1)) ∧ L = [] ∧ h = h0
set_option maxRecDepth 65536 in
set_option maxHeartbeats 40000000 in
theorem rm_refc (l : Launch) (Z : State) (a0 : Array Value) (hw : ∀ d ∈ tables_1, d.before a0 Z = true) (ws : List Jvm.Cond) (p0 : Int64) (p1 : Int64) (h0 : Heap) (n0 : Nat) (Z0 : n0 ≤ h0.size) :
    MetFree l (⟨"com/example/guarded_expansion/guardedexpansion/AmplificationExpandPinLaw", "ref", "(JJ)Z"⟩ : MethodName) (head1 (Jvm.Cond.code (⟨"com/example/guarded_expansion/guardedexpansion/AmplificationExpandPinLaw", "ref", "(JJ)Z"⟩ : MethodName) method_2_code 4 (some .boolean) :: ws) ({ frames := 0, cells := 0, slots := 0, locals := 0 } : Room)) (fun a_ U => a_ = #[(.long p0), (.long p1)] ∧ Z.Warmed39 U.vm ∧ U.heap = h0) (fun _ _ _ _ _ => True) (fun _ U o U' => ∃ v L, o = .returned v ∧ Q_refc Z p0 p1 h0 n0 v U'.heap L ∧ FrameEnd U o U' L ({ frames := 0, cells := 0, slots := 0, locals := 0 } : Room).cells ({ frames := 0, cells := 0, slots := 0, locals := 0 } : Room).slots) := by
  refine MetFree.of_bodySF (plainFor_of_name pn_1) hisR ?_
  intro p e s m args below meth c s₁ Bd hml0 hP hK
  obtain ⟨rfl, hZ, hh⟩ := hP
  have hx := Bd.exec
  have hby := Bd.bytes
  have hlk : meth.locks = false := Bd.notSynchronized
  have hml : c.maxLocals = 4 := hml0
  have hown : s.vm.findClass "com/example/guarded_expansion/guardedexpansion/AmplificationExpandPinLaw" = some m.cls := findClass_of_methodNamed Bd.named
  have hnm := (name_of_methodNamed Bd.named Bd.method).1
  have X0 : Stand p l e ({ frames := 0, cells := 0, slots := 0, locals := 0 } : Room) s m #[(.long p0), (.long p1)] below meth c s₁ [] 0 0 := Stand.of_body Bd
  have e0 : s₁.heap = h0 := by rw [← hh, Bd.state]; rfl
  have N0 := Fr.nil n0
  have J12 : ∀ (T : State), Stand p l e ({ frames := 0, cells := 0, slots := 0, locals := 0 } : Room) s m #[(.long p0), (.long p1)] below meth c T [] 0 0 → T.heap = h0 → f_refc p0 p1 = f_refc_12 p0 p1 → OGets p e below (OLeaves s (Q_refc Z p0 p1 h0 n0 ) ({ frames := 0, cells := 0, slots := 0, locals := 0 } : Room).cells ({ frames := 0, cells := 0, slots := 0, locals := 0 } : Room).slots) (T.setTop (mkF m 12 #[.val (.long p0), .second, .val (.long p1), .second] [])) := by
    intro T X eT hv'
    have hv : f_refc p0 p1 = (1 : Int32) := hv'
    show OGets p e below _ (T.setTop (mkF m 12 #[.val (.long p0), .second, .val (.long p1), .second] []))
    refine OGets.step (fun _ => XS.iconst X.here hx rfl (hb hby dm2_12)) ?_
    show OGets p e below _ (T.setTop (mkF m 13 #[.val (.long p0), .second, .val (.long p1), .second] [(.int (1 : Int32))]))
    refine OGets.step (fun _ => XS.goto X.here hx rfl (pc0 := 13) (pc' := 17) rfl (hb hby dm2_13) (by decide) (by decide)) ?_
    show OGets p e below _ (T.setTop (mkF m 17 #[.val (.long p0), .second, .val (.long p1), .second] [(.int (1 : Int32))]))
    refine OGets.retN X hx hlk (t := .boolean) Bd.returns (by simp) (hb hby dm2_17) (Nat.le_of_ble_eq_true rfl) (Nat.le_of_ble_eq_true rfl) ?_
    exact ⟨congrArg (fun z => some (Value.int z)) hv.symm, rfl, eT⟩
  have hv0 : f_refc p0 p1 = (if p1 < p0 then (if (0 : Int64) < p0 then (0 : Int32) else f_refc_12 p0 p1) else f_refc_12 p0 p1) := rfl
  show OGets p e below (OLeaves s (Q_refc Z p0 p1 h0 n0 ) ({ frames := 0, cells := 0, slots := 0, locals := 0 } : Room).cells ({ frames := 0, cells := 0, slots := 0, locals := 0 } : Room).slots) _
  refine OGets.enter (ef_refc m p0 p1) ?_
  show OGets p e below _ (s₁.setTop (mkF m 0 #[.val (.long p0), .second, .val (.long p1), .second] []))
  refine OGets.step (fun _ => XS.lloadN X0.here hx rfl (hb hby dm2_0) rfl) ?_
  show OGets p e below _ (s₁.setTop (mkF m 1 #[.val (.long p0), .second, .val (.long p1), .second] [(.long p0)]))
  refine OGets.step (fun _ => XS.lloadN X0.here hx rfl (hb hby dm2_1) rfl) ?_
  show OGets p e below _ (s₁.setTop (mkF m 2 #[.val (.long p0), .second, .val (.long p1), .second] [(.long p1), (.long p0)]))
  refine OGets.step (fun _ => XS.lcmp X0.here hx rfl (hb hby dm2_2) rfl) ?_
  show OGets p e below _ (s₁.setTop (mkF m 3 #[.val (.long p0), .second, .val (.long p1), .second] [(.int (lcmpW p0 p1))]))
  by_cases hc3_4 : p1 < p0
  · refine OGets.step (fun _ => XS.ifNo X0.here hx rfl (hb hby dm2_3) rfl ((if0 _ _).trans (tlt ((lw_gt _ _).mpr hc3_4)).2.2.2)) ?_
    have hv5 := hv0.trans (if_pos hc3_4)
    show OGets p e below _ (s₁.setTop (mkF m 6 #[.val (.long p0), .second, .val (.long p1), .second] []))
    refine OGets.step (fun _ => XS.lloadN X0.here hx rfl (hb hby dm2_6) rfl) ?_
    show OGets p e below _ (s₁.setTop (mkF m 7 #[.val (.long p0), .second, .val (.long p1), .second] [(.long p0)]))
    refine OGets.step (fun _ => XS.lconst X0.here hx rfl (hb hby dm2_7)) ?_
    show OGets p e below _ (s₁.setTop (mkF m 8 #[.val (.long p0), .second, .val (.long p1), .second] [(.long (0 : Int64)), (.long p0)]))
    refine OGets.step (fun _ => XS.lcmp X0.here hx rfl (hb hby dm2_8) rfl) ?_
    show OGets p e below _ (s₁.setTop (mkF m 9 #[.val (.long p0), .second, .val (.long p1), .second] [(.int (lcmpW p0 (0 : Int64)))]))
    by_cases hc9_6 : (0 : Int64) < p0
    · refine OGets.step (fun _ => XS.ifYes X0.here hx rfl (pc0 := 9) (pc' := 16) rfl (hb hby dm2_9) rfl ((if0 _ _).trans (tlt ((lw_gt _ _).mpr hc9_6)).2.2.1) (by decide) (by decide)) ?_
      have hv7 := hv5.trans (if_pos hc9_6)
      show OGets p e below _ (s₁.setTop (mkF m 16 #[.val (.long p0), .second, .val (.long p1), .second] []))
      refine OGets.step (fun _ => XS.iconst X0.here hx rfl (hb hby dm2_16)) ?_
      show OGets p e below _ (s₁.setTop (mkF m 17 #[.val (.long p0), .second, .val (.long p1), .second] [(.int (0 : Int32))]))
      refine OGets.retN X0 hx hlk (t := .boolean) Bd.returns (by simp) (hb hby dm2_17) (Nat.le_of_ble_eq_true rfl) (Nat.le_of_ble_eq_true rfl) ?_
      exact ⟨congrArg (fun z => some (Value.int z)) hv7.symm, rfl, e0⟩
    · refine OGets.step (fun _ => XS.ifNo X0.here hx rfl (hb hby dm2_9) rfl ((if0 _ _).trans (flt (fun q => hc9_6 ((lw_gt _ _).mp q))).2.2.1)) ?_
      have hv8 := hv5.trans (if_neg hc9_6)
      show OGets p e below _ (s₁.setTop (mkF m 12 #[.val (.long p0), .second, .val (.long p1), .second] []))
      exact J12 s₁ X0 e0 hv8
  · refine OGets.step (fun _ => XS.ifYes X0.here hx rfl (pc0 := 3) (pc' := 12) rfl (hb hby dm2_3) rfl ((if0 _ _).trans (flt (fun q => hc3_4 ((lw_gt _ _).mp q))).2.2.2) (by decide) (by decide)) ?_
    have hv9 := hv0.trans (if_neg hc3_4)
    show OGets p e below _ (s₁.setTop (mkF m 12 #[.val (.long p0), .second, .val (.long p1), .second] []))
    exact J12 s₁ X0 e0 hv9
theorem own_zero (z : UInt64) (hz : z = 0 ∨ z = 9223372036854775808) : Jvm.FP.Core.zval Jvm.FP.Core.b64 (Jvm.FP.Core.val64 z) = 0 ∧ Jvm.FP.Core.val64 z ≠ .nan := by
  rcases hz with rfl | rfl
  · exact ⟨by decide +kernel, by decide +kernel⟩
  · exact ⟨by decide +kernel, by decide +kernel⟩
theorem own_cmp (n : Int64) (z : UInt64) (hz : z = 0 ∨ z = 9223372036854775808) : ((0 : Int64) < n → cmpValue (FP.dcmp (FP.l2d n) z) .g = 1) ∧ (¬ (0 : Int64) < n → cmpValue (FP.dcmp (FP.l2d n) z) .g = 0 ∨ cmpValue (FP.dcmp (FP.l2d n) z) .g = -1) := by
  obtain ⟨z1, z2⟩ := own_zero z hz
  have n1 : Jvm.FP.Core.val64 (Jvm.FP.Core.l2d n) ≠ .nan := (Jvm.FP.Core.notNaN_iff _).mp (Jvm.FP.Core.l2d_notNaN n)
  have o1 : Jvm.FP.Core.zval Jvm.FP.Core.b64 (Jvm.FP.Core.val64 (Jvm.FP.Core.l2d 1)) = (Jvm.FP.Core.one64 : Int) := by decide +kernel
  have o2 : Jvm.FP.Core.val64 (Jvm.FP.Core.l2d 1) ≠ .nan := by decide +kernel
  have o3 : (0 : Int) < (Jvm.FP.Core.one64 : Int) := by decide +kernel
  have e0 : (0 : Int64).toInt = 0 := rfl
  have hc := Jvm.FP.Core.dcmp_zval n1 z2
  have hd : FP.dcmp (FP.l2d n) z = Jvm.FP.Core.dcmp (Jvm.FP.Core.l2d n) z := rfl
  rw [hd, hc, z1]
  constructor
  · intro h
    rw [Int64.lt_iff_toInt_lt, e0] at h
    have q := Jvm.FP.Core.l2d_zval_ge (n := n) (V := Jvm.FP.Core.l2d 1) o2 (by rw [o1]; have := Int.mul_le_mul_of_nonneg_right (show (1 : Int) ≤ n.toInt by omega) (Int.le_of_lt o3); omega)
    rw [o1] at q
    have r : compare (Jvm.FP.Core.zval Jvm.FP.Core.b64 (Jvm.FP.Core.val64 (Jvm.FP.Core.l2d n))) 0 = .gt := by
      rw [Int.compare_eq_gt]; omega
    rw [r]; rfl
  · intro h
    rw [Int64.lt_iff_toInt_lt, e0] at h
    have q := Jvm.FP.Core.l2d_zval_le (n := n) (V := z) z2 (by rw [z1]; have := Int.mul_le_mul_of_nonneg_right (show n.toInt ≤ 0 by omega) (Int.le_of_lt o3); omega)
    rw [z1] at q
    rcases Int.lt_or_eq_of_le q with q | q
    · right
      rw [Int.compare_eq_lt.mpr q]; rfl
    · left
      rw [Int.compare_eq_eq.mpr q]; rfl
theorem own_nn (z : UInt64) (hz : z = 0 ∨ z = 9223372036854775808) : Jvm.Free.Fl.NoNaN64 z := by rcases hz with rfl | rfl <;> decide +kernel
def fx (t n : Int64) : Int32 := if t < n then (if (0 : Int64) < n then (0 : Int32) else (1 : Int32)) else (1 : Int32)
theorem d1m5_0 : decode prog_1_method_5_code 0 = .ok (.aload_n 0, 1) := by decide +kernel
theorem d1m5_1 : decode prog_1_method_5_code 1 = .ok (.dup, 1) := by decide +kernel
theorem d1m5_2 : decode prog_1_method_5_code 2 = .ok (.getfield 45, 3) := by decide +kernel
theorem d1m5_5 : decode prog_1_method_5_code 5 = .ok (.lload_n 1, 1) := by decide +kernel
theorem d1m5_6 : decode prog_1_method_5_code 6 = .ok (.ladd, 1) := by decide +kernel
theorem d1m5_7 : decode prog_1_method_5_code 7 = .ok (.putfield 45, 3) := by decide +kernel
theorem d1m5_10 : decode prog_1_method_5_code 10 = .ok (.aload_n 0, 1) := by decide +kernel
theorem d1m5_11 : decode prog_1_method_5_code 11 = .ok (.getfield 45, 3) := by decide +kernel
theorem d1m5_14 : decode prog_1_method_5_code 14 = .ok (.aload_n 0, 1) := by decide +kernel
theorem d1m5_15 : decode prog_1_method_5_code 15 = .ok (.getfield 13, 3) := by decide +kernel
theorem d1m5_18 : decode prog_1_method_5_code 18 = .ok (.lcmp, 1) := by decide +kernel
theorem d1m5_19 : decode prog_1_method_5_code 19 = .ok (.ifCond .le 22, 3) := by decide +kernel
theorem d1m5_22 : decode prog_1_method_5_code 22 = .ok (.aload_n 0, 1) := by decide +kernel
theorem d1m5_23 : decode prog_1_method_5_code 23 = .ok (.getfield 45, 3) := by decide +kernel
theorem d1m5_26 : decode prog_1_method_5_code 26 = .ok (.l2d, 1) := by decide +kernel
theorem d1m5_27 : decode prog_1_method_5_code 27 = .ok (.aload_n 0, 1) := by decide +kernel
theorem d1m5_28 : decode prog_1_method_5_code 28 = .ok (.getfield 7, 3) := by decide +kernel
theorem d1m5_31 : decode prog_1_method_5_code 31 = .ok (.aload_n 0, 1) := by decide +kernel
theorem d1m5_32 : decode prog_1_method_5_code 32 = .ok (.getfield 48, 3) := by decide +kernel
theorem d1m5_35 : decode prog_1_method_5_code 35 = .ok (.l2d, 1) := by decide +kernel
theorem d1m5_36 : decode prog_1_method_5_code 36 = .ok (.dmul, 1) := by decide +kernel
theorem d1m5_37 : decode prog_1_method_5_code 37 = .ok (.dcmp .g, 1) := by decide +kernel
theorem d1m5_38 : decode prog_1_method_5_code 38 = .ok (.ifCond .gt 7, 3) := by decide +kernel
theorem d1m5_45 : decode prog_1_method_5_code 45 = .ok (.iconst 0, 1) := by decide +kernel
theorem d1m5_46 : decode prog_1_method_5_code 46 = .ok (.ireturn, 1) := by decide +kernel
theorem d1m5_41 : decode prog_1_method_5_code 41 = .ok (.iconst 1, 1) := by decide +kernel
theorem d1m5_42 : decode prog_1_method_5_code 42 = .ok (.goto 4, 3) := by decide +kernel
theorem ef_exp (m : MethodId) (x0 : Addr) (x1 : Int64) : entryFrame m #[(.ref x0), (.long x1)] 3 = mkF m 0 #[.val (.ref x0), .val (.long x1), .second] [] := by first | (simp [entryFrame, mkF, argsToLocals, Value.category]; done) | rfl
def Q_exp (Z : State) (a : Addr) (d : UInt64) (t : Int64) (ch : Int64) (z : UInt64) (q : Int64) (h0 : Heap) (n0 : Nat) (F : List (Addr × OObj)) (v : Option Value) (h : Heap) (L : List Loc) : Prop := v = some (.int (fx t (ch + q))) ∧ Fr n0 L ∧ OView Z n0 h (((a, Sum.inl ("com/example/guarded_expansion/guardedexpansion/Amplification", ns_Amplification, [(.double d), (.long t), (.long (ch + q)), (.long (0 : Int64))])) : Addr × OObj) :: F)
set_option maxRecDepth 65536 in
set_option maxHeartbeats 40000000 in
theorem rm_exp (l : Launch) (Z : State) (a0 : Array Value) (hw : ∀ d ∈ tables_1, d.before a0 Z = true) (ws : List Jvm.Cond) (a : Addr) (d : UInt64) (t : Int64) (ch : Int64) (z : UInt64) (q : Int64) (h0 : Heap) (n0 : Nat) (F : List (Addr × OObj)) (Z0 : n0 ≤ h0.size) (hD : FP.dmul d (FP.l2d 0) = z) (hz : z = 0 ∨ z = 9223372036854775808) (V0 : OView Z n0 h0 (((a, Sum.inl ("com/example/guarded_expansion/guardedexpansion/Amplification", ns_Amplification, [(.double d), (.long t), (.long ch), (.long (0 : Int64))])) : Addr × OObj) :: F)) :
    MetFree l (⟨"com/example/guarded_expansion/guardedexpansion/Amplification", "expand", "(J)Z"⟩ : MethodName) (head1 (Jvm.Cond.code (⟨"com/example/guarded_expansion/guardedexpansion/Amplification", "expand", "(J)Z"⟩ : MethodName) prog_1_method_5_code 3 (some .boolean) :: ws) ({ frames := 0, cells := 0, slots := 0, locals := 0 } : Room)) (fun a_ U => a_ = #[(.ref a), (.long q)] ∧ Z.Warmed39 U.vm ∧ U.heap = h0) (fun _ _ _ _ _ => True) (fun _ U o U' => ∃ v L, o = .returned v ∧ Q_exp Z a d t ch z q h0 n0 F v U'.heap L ∧ FrameEnd U o U' L ({ frames := 0, cells := 0, slots := 0, locals := 0 } : Room).cells ({ frames := 0, cells := 0, slots := 0, locals := 0 } : Room).slots) := by
  refine MetFree.of_bodySF (plainFor_of_name pn_0) hisR ?_
  intro p e s m args below meth c s₁ Bd hml0 hP hK
  obtain ⟨rfl, hZ, hh⟩ := hP
  have hx := Bd.exec
  have hby := Bd.bytes
  have hlk : meth.locks = false := Bd.notSynchronized
  have hml : c.maxLocals = 3 := hml0
  have hown : s.vm.findClass "com/example/guarded_expansion/guardedexpansion/Amplification" = some m.cls := findClass_of_methodNamed Bd.named
  have hnm := (name_of_methodNamed Bd.named Bd.method).1
  have X0 : Stand p l e ({ frames := 0, cells := 0, slots := 0, locals := 0 } : Room) s m #[(.ref a), (.long q)] below meth c s₁ [] 0 0 := Stand.of_body Bd
  have e0 : s₁.heap = h0 := by rw [← hh, Bd.state]; rfl
  have N0 := Fr.nil n0
  show OGets p e below (OLeaves s (Q_exp Z a d t ch z q h0 n0 F ) ({ frames := 0, cells := 0, slots := 0, locals := 0 } : Room).cells ({ frames := 0, cells := 0, slots := 0, locals := 0 } : Room).slots) _
  refine OGets.enter (ef_exp m a q) ?_
  show OGets p e below _ (s₁.setTop (mkF m 0 #[.val (.ref a), .val (.long q), .second] []))
  refine OGets.step (fun _ => XS.aloadN X0.here hx rfl (hb hby d1m5_0) rfl rfl) ?_
  show OGets p e below _ (s₁.setTop (mkF m 1 #[.val (.ref a), .val (.long q), .second] [(.ref a)]))
  refine OGets.step (fun _ => XS.dup X0.here hx rfl (hb hby d1m5_1) rfl rfl) ?_
  show OGets p e below _ (s₁.setTop (mkF m 2 #[.val (.ref a), .val (.long q), .second] [(.ref a), (.ref a)]))
  obtain ⟨T10, X10, e10, st10⟩ := getF X0 hx hZ hown (host := "") (Or.inl (hw _ (List.mem_of_getElem? (i := 18) rfl))) Via.refl e0 (V0.fld 0 rfl 2 rfl rfl) (g := (mkF m 2 #[.val (.ref a), .val (.long q), .second] [(.ref a), (.ref a)])) rfl rfl (hb hby d1m5_2)
  refine OGets.step st10 ?_
  show OGets p e below _ (T10.setTop (mkF m 5 #[.val (.ref a), .val (.long q), .second] [(.long ch), (.ref a)]))
  refine OGets.step (fun _ => XS.lloadN X10.here hx rfl (hb hby d1m5_5) rfl) ?_
  show OGets p e below _ (T10.setTop (mkF m 6 #[.val (.ref a), .val (.long q), .second] [(.long q), (.long ch), (.ref a)]))
  refine OGets.step (fun _ => XS.ladd X10.here hx rfl (hb hby d1m5_6) rfl) ?_
  show OGets p e below _ (T10.setTop (mkF m 7 #[.val (.ref a), .val (.long q), .second] [(.long (ch + q)), (.ref a)]))
  obtain ⟨T11, h11, X11, e11, W11, st11⟩ := putF X10 hx hZ hown (host := "") (Or.inl (hw _ (List.mem_of_getElem? (i := 18) rfl))) Via.refl e10 (V0.fld 0 rfl 2 rfl rfl) (V0.exa 0 rfl) (Or.inl (hw _ (List.mem_of_getElem? (i := 19) rfl))) (hw _ (List.mem_of_getElem? (i := 1) rfl)) (ty := .long) (by decide) rfl rfl (g := (mkF m 7 #[.val (.ref a), .val (.long q), .second] [(.long (ch + q)), (.ref a)])) rfl rfl (hb hby d1m5_7)
  have V11 : OView Z n0 h11 (((a, Sum.inl ("com/example/guarded_expansion/guardedexpansion/Amplification", ns_Amplification, [(.double d), (.long t), (.long (ch + q)), (.long (0 : Int64))])) : Addr × OObj) :: F) := V0.putF 0 rfl 2 rfl W11
  have N11 := Fr.snoc X11 N0 (V0.old 0 rfl)
  have Z11 : n0 ≤ h11.size := by rw [W11.size]; exact Z0
  refine OGets.step st11 ?_
  show OGets p e below _ (T11.setTop (mkF m 10 #[.val (.ref a), .val (.long q), .second] []))
  refine OGets.step (fun _ => XS.aloadN X11.here hx rfl (hb hby d1m5_10) rfl rfl) ?_
  show OGets p e below _ (T11.setTop (mkF m 11 #[.val (.ref a), .val (.long q), .second] [(.ref a)]))
  obtain ⟨T12, X12, e12, st12⟩ := getF X11 hx hZ hown (host := "") (Or.inl (hw _ (List.mem_of_getElem? (i := 18) rfl))) Via.refl e11 (V11.fld 0 rfl 2 rfl rfl) (g := (mkF m 11 #[.val (.ref a), .val (.long q), .second] [(.ref a)])) rfl rfl (hb hby d1m5_11)
  refine OGets.step st12 ?_
  show OGets p e below _ (T12.setTop (mkF m 14 #[.val (.ref a), .val (.long q), .second] [(.long (ch + q))]))
  refine OGets.step (fun _ => XS.aloadN X12.here hx rfl (hb hby d1m5_14) rfl rfl) ?_
  show OGets p e below _ (T12.setTop (mkF m 15 #[.val (.ref a), .val (.long q), .second] [(.ref a), (.long (ch + q))]))
  obtain ⟨T13, X13, e13, st13⟩ := getF X12 hx hZ hown (host := "") (Or.inl (hw _ (List.mem_of_getElem? (i := 11) rfl))) Via.refl e12 (V11.fld 0 rfl 1 rfl rfl) (g := (mkF m 15 #[.val (.ref a), .val (.long q), .second] [(.ref a), (.long (ch + q))])) rfl rfl (hb hby d1m5_15)
  refine OGets.step st13 ?_
  show OGets p e below _ (T13.setTop (mkF m 18 #[.val (.ref a), .val (.long q), .second] [(.long t), (.long (ch + q))]))
  refine OGets.step (fun _ => XS.lcmp X13.here hx rfl (hb hby d1m5_18) rfl) ?_
  show OGets p e below _ (T13.setTop (mkF m 19 #[.val (.ref a), .val (.long q), .second] [(.int (lcmpW (ch + q) t))]))
  by_cases hc19_14 : t < (ch + q)
  · refine OGets.step (fun _ => XS.ifNo X13.here hx rfl (hb hby d1m5_19) rfl ((if0 _ _).trans (tlt ((lw_gt _ _).mpr hc19_14)).2.2.2)) ?_
    show OGets p e below _ (T13.setTop (mkF m 22 #[.val (.ref a), .val (.long q), .second] []))
    refine OGets.step (fun _ => XS.aloadN X13.here hx rfl (hb hby d1m5_22) rfl rfl) ?_
    show OGets p e below _ (T13.setTop (mkF m 23 #[.val (.ref a), .val (.long q), .second] [(.ref a)]))
    obtain ⟨T15, X15, e15, st15⟩ := getF X13 hx hZ hown (host := "") (Or.inl (hw _ (List.mem_of_getElem? (i := 18) rfl))) Via.refl e13 (V11.fld 0 rfl 2 rfl rfl) (g := (mkF m 23 #[.val (.ref a), .val (.long q), .second] [(.ref a)])) rfl rfl (hb hby d1m5_23)
    refine OGets.step st15 ?_
    show OGets p e below _ (T15.setTop (mkF m 26 #[.val (.ref a), .val (.long q), .second] [(.long (ch + q))]))
    refine OGets.step (fun _ => XS.l2dS X15.here hx rfl (hb hby d1m5_26) rfl rfl) ?_
    show OGets p e below _ (T15.setTop (mkF m 27 #[.val (.ref a), .val (.long q), .second] [(.double (FP.l2d (ch + q)))]))
    refine OGets.step (fun _ => XS.aloadN X15.here hx rfl (hb hby d1m5_27) rfl rfl) ?_
    show OGets p e below _ (T15.setTop (mkF m 28 #[.val (.ref a), .val (.long q), .second] [(.ref a), (.double (FP.l2d (ch + q)))]))
    obtain ⟨T16, X16, e16, st16⟩ := getF X15 hx hZ hown (host := "") (Or.inl (hw _ (List.mem_of_getElem? (i := 9) rfl))) Via.refl e15 (V11.fld 0 rfl 0 rfl rfl) (g := (mkF m 28 #[.val (.ref a), .val (.long q), .second] [(.ref a), (.double (FP.l2d (ch + q)))])) rfl rfl (hb hby d1m5_28)
    refine OGets.step st16 ?_
    show OGets p e below _ (T16.setTop (mkF m 31 #[.val (.ref a), .val (.long q), .second] [(.double d), (.double (FP.l2d (ch + q)))]))
    refine OGets.step (fun _ => XS.aloadN X16.here hx rfl (hb hby d1m5_31) rfl rfl) ?_
    show OGets p e below _ (T16.setTop (mkF m 32 #[.val (.ref a), .val (.long q), .second] [(.ref a), (.double d), (.double (FP.l2d (ch + q)))]))
    obtain ⟨T17, X17, e17, st17⟩ := getF X16 hx hZ hown (host := "") (Or.inl (hw _ (List.mem_of_getElem? (i := 24) rfl))) Via.refl e16 (V11.fld 0 rfl 3 rfl rfl) (g := (mkF m 32 #[.val (.ref a), .val (.long q), .second] [(.ref a), (.double d), (.double (FP.l2d (ch + q)))])) rfl rfl (hb hby d1m5_32)
    refine OGets.step st17 ?_
    show OGets p e below _ (T17.setTop (mkF m 35 #[.val (.ref a), .val (.long q), .second] [(.long (0 : Int64)), (.double d), (.double (FP.l2d (ch + q)))]))
    refine OGets.step (fun _ => XS.l2dS X17.here hx rfl (hb hby d1m5_35) rfl rfl) ?_
    show OGets p e below _ (T17.setTop (mkF m 36 #[.val (.ref a), .val (.long q), .second] [(.double (FP.l2d (0 : Int64))), (.double d), (.double (FP.l2d (ch + q)))]))
    refine OGets.step (fun _ => XS.dmulS X17.here hx rfl (hb hby d1m5_36) rfl (by rw [hD]; exact own_nn z hz) hD) ?_
    show OGets p e below _ (T17.setTop (mkF m 37 #[.val (.ref a), .val (.long q), .second] [(.double z), (.double (FP.l2d (ch + q)))]))
    by_cases hz0 : (0 : Int64) < (ch + q)
    · refine OGets.step (fun _ => XS.dcmpS X17.here hx rfl (hb hby d1m5_37) rfl ((own_cmp (ch + q) z hz).1 hz0)) ?_
      show OGets p e below _ (T17.setTop (mkF m 38 #[.val (.ref a), .val (.long q), .second] [(.int (1 : Int32))]))
      refine OGets.step (fun _ => XS.ifYes X17.here hx rfl (pc0 := 38) (pc' := 45) rfl (hb hby d1m5_38) rfl ((if0 _ _).trans (tlt (by decide : (0 : Int32) < (1 : Int32))).2.2.1) (by decide) (by decide)) ?_
      show OGets p e below _ (T17.setTop (mkF m 45 #[.val (.ref a), .val (.long q), .second] []))
      refine OGets.step (fun _ => XS.iconst X17.here hx rfl (hb hby d1m5_45)) ?_
      show OGets p e below _ (T17.setTop (mkF m 46 #[.val (.ref a), .val (.long q), .second] [(.int (0 : Int32))]))
      refine OGets.retN X17 hx hlk (t := .boolean) Bd.returns (by simp) (hb hby d1m5_46) (Nat.le_of_ble_eq_true rfl) (Nat.le_of_ble_eq_true rfl) ?_
      have t3 : fx t (ch + q) = (0 : Int32) := ((if_pos hc19_14).trans (if_pos hz0))
      rw [e17]
      exact ⟨congrArg (fun z => some (Value.int z)) t3.symm, N11, V11⟩
    · rcases (own_cmp (ch + q) z hz).2 hz0 with hq | hq
      · refine OGets.step (fun _ => XS.dcmpS X17.here hx rfl (hb hby d1m5_37) rfl hq) ?_
        show OGets p e below _ (T17.setTop (mkF m 38 #[.val (.ref a), .val (.long q), .second] [(.int (0 : Int32))]))
        refine OGets.step (fun _ => XS.ifNo X17.here hx rfl (hb hby d1m5_38) rfl ((if0 _ _).trans (flt (by decide : ¬ ((0 : Int32) < (0 : Int32)))).2.2.1)) ?_
        show OGets p e below _ (T17.setTop (mkF m 41 #[.val (.ref a), .val (.long q), .second] []))
        refine OGets.step (fun _ => XS.iconst X17.here hx rfl (hb hby d1m5_41)) ?_
        show OGets p e below _ (T17.setTop (mkF m 42 #[.val (.ref a), .val (.long q), .second] [(.int (1 : Int32))]))
        refine OGets.step (fun _ => XS.goto X17.here hx rfl (pc0 := 42) (pc' := 46) rfl (hb hby d1m5_42) (by decide) (by decide)) ?_
        show OGets p e below _ (T17.setTop (mkF m 46 #[.val (.ref a), .val (.long q), .second] [(.int (1 : Int32))]))
        refine OGets.retN X17 hx hlk (t := .boolean) Bd.returns (by simp) (hb hby d1m5_46) (Nat.le_of_ble_eq_true rfl) (Nat.le_of_ble_eq_true rfl) ?_
        have t3 : fx t (ch + q) = (1 : Int32) := ((if_pos hc19_14).trans (if_neg hz0))
        rw [e17]
        exact ⟨congrArg (fun z => some (Value.int z)) t3.symm, N11, V11⟩
      · refine OGets.step (fun _ => XS.dcmpS X17.here hx rfl (hb hby d1m5_37) rfl hq) ?_
        show OGets p e below _ (T17.setTop (mkF m 38 #[.val (.ref a), .val (.long q), .second] [(.int (-1 : Int32))]))
        refine OGets.step (fun _ => XS.ifNo X17.here hx rfl (hb hby d1m5_38) rfl ((if0 _ _).trans (flt (by decide : ¬ ((0 : Int32) < (-1 : Int32)))).2.2.1)) ?_
        show OGets p e below _ (T17.setTop (mkF m 41 #[.val (.ref a), .val (.long q), .second] []))
        refine OGets.step (fun _ => XS.iconst X17.here hx rfl (hb hby d1m5_41)) ?_
        show OGets p e below _ (T17.setTop (mkF m 42 #[.val (.ref a), .val (.long q), .second] [(.int (1 : Int32))]))
        refine OGets.step (fun _ => XS.goto X17.here hx rfl (pc0 := 42) (pc' := 46) rfl (hb hby d1m5_42) (by decide) (by decide)) ?_
        show OGets p e below _ (T17.setTop (mkF m 46 #[.val (.ref a), .val (.long q), .second] [(.int (1 : Int32))]))
        refine OGets.retN X17 hx hlk (t := .boolean) Bd.returns (by simp) (hb hby d1m5_46) (Nat.le_of_ble_eq_true rfl) (Nat.le_of_ble_eq_true rfl) ?_
        have t3 : fx t (ch + q) = (1 : Int32) := ((if_pos hc19_14).trans (if_neg hz0))
        rw [e17]
        exact ⟨congrArg (fun z => some (Value.int z)) t3.symm, N11, V11⟩
  · refine OGets.step (fun _ => XS.ifYes X13.here hx rfl (pc0 := 19) (pc' := 41) rfl (hb hby d1m5_19) rfl ((if0 _ _).trans (flt (fun q => hc19_14 ((lw_gt _ _).mp q))).2.2.2) (by decide) (by decide)) ?_
    show OGets p e below _ (T13.setTop (mkF m 41 #[.val (.ref a), .val (.long q), .second] []))
    refine OGets.step (fun _ => XS.iconst X13.here hx rfl (hb hby d1m5_41)) ?_
    show OGets p e below _ (T13.setTop (mkF m 42 #[.val (.ref a), .val (.long q), .second] [(.int (1 : Int32))]))
    refine OGets.step (fun _ => XS.goto X13.here hx rfl (pc0 := 42) (pc' := 46) rfl (hb hby d1m5_42) (by decide) (by decide)) ?_
    show OGets p e below _ (T13.setTop (mkF m 46 #[.val (.ref a), .val (.long q), .second] [(.int (1 : Int32))]))
    refine OGets.retN X13 hx hlk (t := .boolean) Bd.returns (by simp) (hb hby d1m5_46) (Nat.le_of_ble_eq_true rfl) (Nat.le_of_ble_eq_true rfl) ?_
    have t3 : fx t (ch + q) = (1 : Int32) := (if_neg hc19_14)
    rw [e13]
    exact ⟨congrArg (fun z => some (Value.int z)) t3.symm, N11, V11⟩
theorem own_fx (t n : Int64) : fx t n = f_refc n t := by
  simp only [fx, f_refc, f_refc_12]
theorem own_lim (x : Int32) : ∃ z : UInt64, FP.dmul (FP.i2d (x % (1000 : Int32))) (FP.l2d 0) = z ∧ (z = 0 ∨ z = 9223372036854775808) := by
  have h1 := c_irem x 1000 1000 (by decide)
  have h3 := c_i2l (x % (1000 : Int32))
  have hB : B53 (x % (1000 : Int32)).toInt64 := by
    unfold B53
    rw [h3]
    rcases Int.lt_or_le x.toInt 0 with q | q
    · have := h1.2 q; omega
    · have := h1.1 q; omega
  have h0 : B53 (0 : Int64) := by unfold B53; decide
  rw [i2d_w, dmul_z hB h0 (Or.inr rfl)]
  split
  · exact ⟨_, rfl, Or.inr rfl⟩
  · exact ⟨_, rfl, Or.inl l2d_zero⟩
theorem pd_2 : parseMethodDescriptor "(DJ)V" = some ⟨[.double, .long], none⟩ := by decide +kernel
theorem pd_3 : parseMethodDescriptor "(J)Z" = some ⟨[.long], some .boolean⟩ := by decide +kernel
theorem pd_4 : parseMethodDescriptor "(JJ)Z" = some ⟨[.long, .long], some .boolean⟩ := by decide +kernel
theorem ef_law (m : MethodId) (x0 : Int64) (x1 : Int64) (x2 : Int64) (x3 : Int64) (x4 : Int32) : entryFrame m #[(.long x0), (.long x1), (.long x2), (.long x3), (.int x4)] maxLocals = mkF m 0 #[.val (.long x0), .second, .val (.long x1), .second, .val (.long x2), .second, .val (.long x3), .second, .val (.int x4), .unset, .unset, .unset, .unset, .unset, .unset, .unset, .unset, .unset, .unset, .unset, .unset] [] := by first | (simp [entryFrame, mkF, argsToLocals, Value.category, maxLocals]; done) | rfl
def Q_law (Z : State) (p0 : Int64) (p1 : Int64) (p2 : Int64) (p3 : Int64) (p4 : Int32) (h0 : Heap) (n0 : Nat) (v : Option Value) (h : Heap) (L : List Loc) : Prop := v = some (.int 1) ∧ Fr n0 L
set_option maxRecDepth 65536 in
set_option maxHeartbeats 40000000 in
theorem rm_law (l : Launch) (Z : State) (a0 : Array Value) (hw : ∀ d ∈ tables_1, d.before a0 Z = true) (ws : List Jvm.Cond) (p0 : Int64) (p1 : Int64) (p2 : Int64) (p3 : Int64) (p4 : Int32) (h0 : Heap) (n0 : Nat) (Z0 : n0 ≤ h0.size) (V0 : OView Z n0 h0 ([])) :
    MetFree l x (head1 (Jvm.Cond.code x code maxLocals ret :: ws) room_1) (fun a_ U => a_ = #[(.long p0), (.long p1), (.long p2), (.long p3), (.int p4)] ∧ Z.Warmed39 U.vm ∧ U.heap = h0) (fun _ _ _ _ _ => True) (fun _ U o U' => ∃ v L, o = .returned v ∧ Q_law Z p0 p1 p2 p3 p4 h0 n0 v U'.heap L ∧ FrameEnd U o U' L 16 128) := by
  refine MetFree.of_bodySF (plainFor_of_name pn_1) hisR ?_
  intro p e s m args below meth c s₁ Bd hml0 hP hK
  obtain ⟨rfl, hZ, hh⟩ := hP
  have hx := Bd.exec
  have hby := Bd.bytes
  have hlk : meth.locks = false := Bd.notSynchronized
  have hml : c.maxLocals = 21 := hml0
  have hown : s.vm.findClass "com/example/guarded_expansion/guardedexpansion/AmplificationExpandPinLaw" = some m.cls := findClass_of_methodNamed Bd.named
  have hnm := (name_of_methodNamed Bd.named Bd.method).1
  have X0 : Stand p l e room_1 s m #[(.long p0), (.long p1), (.long p2), (.long p3), (.int p4)] below meth c s₁ [] 0 0 := Stand.of_body Bd
  have e0 : s₁.heap = h0 := by rw [← hh, Bd.state]; rfl
  have N0 := Fr.nil n0
  show OGets p e below (OLeaves s (Q_law Z p0 p1 p2 p3 p4 h0 n0 ) 16 128) _
  refine OGets.enter (ef_law m p0 p1 p2 p3 p4) ?_
  show OGets p e below _ (s₁.setTop (mkF m 0 #[.val (.long p0), .second, .val (.long p1), .second, .val (.long p2), .second, .val (.long p3), .second, .val (.int p4), .unset, .unset, .unset, .unset, .unset, .unset, .unset, .unset, .unset, .unset, .unset, .unset] []))
  refine OGets.step (fun _ => XS.iload X0.here hx rfl (hb hby at_0) rfl) ?_
  show OGets p e below _ (s₁.setTop (mkF m 2 #[.val (.long p0), .second, .val (.long p1), .second, .val (.long p2), .second, .val (.long p3), .second, .val (.int p4), .unset, .unset, .unset, .unset, .unset, .unset, .unset, .unset, .unset, .unset, .unset, .unset] [(.int p4)]))
  refine OGets.step (fun _ => XS.sipush X0.here hx rfl (hb hby at_2)) ?_
  show OGets p e below _ (s₁.setTop (mkF m 5 #[.val (.long p0), .second, .val (.long p1), .second, .val (.long p2), .second, .val (.long p3), .second, .val (.int p4), .unset, .unset, .unset, .unset, .unset, .unset, .unset, .unset, .unset, .unset, .unset, .unset] [(.int (1000 : Int32)), (.int p4)]))
  refine OGets.step (fun _ => iremM (g := (mkF m 5 #[.val (.long p0), .second, .val (.long p1), .second, .val (.long p2), .second, .val (.long p3), .second, .val (.int p4), .unset, .unset, .unset, .unset, .unset, .unset, .unset, .unset, .unset, .unset, .unset, .unset] [(.int (1000 : Int32)), (.int p4)])) X0 hx rfl (hb hby at_5) rfl (by decide)) ?_
  show OGets p e below _ (s₁.setTop (mkF m 6 #[.val (.long p0), .second, .val (.long p1), .second, .val (.long p2), .second, .val (.long p3), .second, .val (.int p4), .unset, .unset, .unset, .unset, .unset, .unset, .unset, .unset, .unset, .unset, .unset, .unset] [(.int (p4 % (1000 : Int32)))]))
  refine OGets.step (fun _ => XS.i2dS X0.here hx rfl (hb hby at_6) rfl rfl) ?_
  show OGets p e below _ (s₁.setTop (mkF m 7 #[.val (.long p0), .second, .val (.long p1), .second, .val (.long p2), .second, .val (.long p3), .second, .val (.int p4), .unset, .unset, .unset, .unset, .unset, .unset, .unset, .unset, .unset, .unset, .unset, .unset] [(.double (FP.i2d (p4 % (1000 : Int32))))]))
  refine OGets.step (fun _ => XS.dstore X0.here hx rfl (hb hby at_7) rfl (l' := #[.val (.long p0), .second, .val (.long p1), .second, .val (.long p2), .second, .val (.long p3), .second, .val (.int p4), .val (.double (FP.i2d (p4 % (1000 : Int32)))), .second, .unset, .unset, .unset, .unset, .unset, .unset, .unset, .unset, .unset, .unset]) rfl) ?_
  obtain ⟨z, hD, hz⟩ := own_lim p4
  show OGets p e below _ (s₁.setTop (mkF m 9 #[.val (.long p0), .second, .val (.long p1), .second, .val (.long p2), .second, .val (.long p3), .second, .val (.int p4), .val (.double (FP.i2d (p4 % (1000 : Int32)))), .second, .unset, .unset, .unset, .unset, .unset, .unset, .unset, .unset, .unset, .unset] []))
  obtain ⟨T21, h21, X21, e21, E21, A21, D21, -, st21⟩ := newO X0 hx hZ hown (hw _ (List.mem_of_getElem? (i := 0) rfl)) (hw _ (List.mem_of_getElem? (i := 1) rfl)) (hw _ (List.mem_of_getElem? (i := 2) rfl)) e0 (g := (mkF m 9 #[.val (.long p0), .second, .val (.long p1), .second, .val (.long p2), .second, .val (.long p3), .second, .val (.int p4), .val (.double (FP.i2d (p4 % (1000 : Int32)))), .second, .unset, .unset, .unset, .unset, .unset, .unset, .unset, .unset, .unset, .unset] [])) rfl (hb hby at_9) (by decide) (by decide)
  have V21' := V0.newObj (ns := ns_Amplification) (vs := [(.double 0), (.long (0 : Int64)), (.long (0 : Int64)), (.long (0 : Int64))]) Z0 E21 A21 D21 (lay_ns_Amplification hw) (by decide) (by decide)
  have Z21 : n0 ≤ h21.size := Nat.le_trans Z0 E21.1
  obtain ⟨b21, g21⟩ : ∃ z, z = h0.size := ⟨_, rfl⟩
  rw [← g21] at V21' st21
  have V21 : OView Z n0 h21 (((b21, Sum.inl ("com/example/guarded_expansion/guardedexpansion/Amplification", ns_Amplification, [(.double 0), (.long (0 : Int64)), (.long (0 : Int64)), (.long (0 : Int64))])) : Addr × OObj) :: []) := V21'
  refine OGets.step st21 ?_
  show OGets p e below _ (T21.setTop (mkF m 12 #[.val (.long p0), .second, .val (.long p1), .second, .val (.long p2), .second, .val (.long p3), .second, .val (.int p4), .val (.double (FP.i2d (p4 % (1000 : Int32)))), .second, .unset, .unset, .unset, .unset, .unset, .unset, .unset, .unset, .unset, .unset] [(.ref b21)]))
  refine OGets.step (fun _ => XS.dup X21.here hx rfl (hb hby at_12) rfl rfl) ?_
  show OGets p e below _ (T21.setTop (mkF m 13 #[.val (.long p0), .second, .val (.long p1), .second, .val (.long p2), .second, .val (.long p3), .second, .val (.int p4), .val (.double (FP.i2d (p4 % (1000 : Int32)))), .second, .unset, .unset, .unset, .unset, .unset, .unset, .unset, .unset, .unset, .unset] [(.ref b21), (.ref b21)]))
  refine OGets.step (fun _ => XS.dload X21.here hx rfl (hb hby at_13) rfl) ?_
  show OGets p e below _ (T21.setTop (mkF m 15 #[.val (.long p0), .second, .val (.long p1), .second, .val (.long p2), .second, .val (.long p3), .second, .val (.int p4), .val (.double (FP.i2d (p4 % (1000 : Int32)))), .second, .unset, .unset, .unset, .unset, .unset, .unset, .unset, .unset, .unset, .unset] [(.double (FP.i2d (p4 % (1000 : Int32)))), (.ref b21), (.ref b21)]))
  refine OGets.step (fun _ => XS.lloadN X21.here hx rfl (hb hby at_15) rfl) ?_
  show OGets p e below _ (T21.setTop (mkF m 16 #[.val (.long p0), .second, .val (.long p1), .second, .val (.long p2), .second, .val (.long p3), .second, .val (.int p4), .val (.double (FP.i2d (p4 % (1000 : Int32)))), .second, .unset, .unset, .unset, .unset, .unset, .unset, .unset, .unset, .unset, .unset] [(.long p0), (.double (FP.i2d (p4 % (1000 : Int32)))), (.ref b21), (.ref b21)]))
  obtain ⟨_, _, ⟨T22, L22, k22, n22⟩, -, X22, ⟨Lc22, hQ22, l22, y22, z22⟩, st22⟩ := X21.specialBack hx (y := (⟨"com/example/guarded_expansion/guardedexpansion/Amplification", "<init>", "(DJ)V"⟩ : MethodName)) rfl hown (mvT hZ (hw _ (List.mem_of_getElem? (i := 3) rfl))) (mvT hZ (hw _ (List.mem_of_getElem? (i := 4) rfl))) (mvT hZ (hw _ (List.mem_of_getElem? (i := 5) rfl))) (by decide) (backOf (W := 1) (rm_init l Z a0 hw [] b21 (FP.i2d (p4 % (1000 : Int32))) p0 h21 n0 ([]) Z21  V21) hZ (hw _ (List.mem_of_getElem? (i := 5) rfl)) (hw _ (List.mem_of_getElem? (i := 2) rfl)) (by decide) (by decide)) (g := (mkF m 16 #[.val (.long p0), .second, .val (.long p1), .second, .val (.long p2), .second, .val (.long p3), .second, .val (.int p4), .val (.double (FP.i2d (p4 % (1000 : Int32)))), .second, .unset, .unset, .unset, .unset, .unset, .unset, .unset, .unset, .unset, .unset] [(.long p0), (.double (FP.i2d (p4 % (1000 : Int32)))), (.ref b21), (.ref b21)])) rfl (by rw [hml]; rfl) (Steps.refl _) (a := b21) (argsL := [(.double (FP.i2d (p4 % (1000 : Int32)))), (.long p0)]) (rest := [(.ref b21)]) (lenOf pd_2 rfl) rfl (by show 2 * 0 + _ ≤ _; exact Nat.le_of_eq rfl) (hb hby at_16) (fun _ _ => ⟨rfl, e21, Nat.le_of_ble_eq_true rfl, Nat.le_of_ble_eq_true rfl⟩)
  dsimp only [Pt.U, Pt.locs, Pt.cells, Pt.slots] at X22 l22 y22 z22 st22 hQ22
  rw [l22, y22, z22] at X22
  obtain ⟨rfl, N22q, V22⟩ := hQ22
  have N22 := Fr.app N0 N22q
  have V22v : OView Z n0 T22.heap (((b21, Sum.inl ("com/example/guarded_expansion/guardedexpansion/Amplification", ns_Amplification, [(.double (FP.i2d (p4 % (1000 : Int32)))), (.long p0), (.long (0 : Int64)), (.long (0 : Int64))])) : Addr × OObj) :: []) := V22
  have Z22 : n0 ≤ T22.heap.size := V22v.big 0 rfl
  refine OGets.after st22 ?_
  show OGets p e below _ (T22.setTop (mkF m 19 #[.val (.long p0), .second, .val (.long p1), .second, .val (.long p2), .second, .val (.long p3), .second, .val (.int p4), .val (.double (FP.i2d (p4 % (1000 : Int32)))), .second, .unset, .unset, .unset, .unset, .unset, .unset, .unset, .unset, .unset, .unset] [(.ref b21)]))
  refine OGets.step (fun _ => XS.astore X22.here hx rfl (hb hby at_19) rfl rfl (l' := #[.val (.long p0), .second, .val (.long p1), .second, .val (.long p2), .second, .val (.long p3), .second, .val (.int p4), .val (.double (FP.i2d (p4 % (1000 : Int32)))), .second, .val (.ref b21), .unset, .unset, .unset, .unset, .unset, .unset, .unset, .unset, .unset]) rfl) ?_
  show OGets p e below _ (T22.setTop (mkF m 21 #[.val (.long p0), .second, .val (.long p1), .second, .val (.long p2), .second, .val (.long p3), .second, .val (.int p4), .val (.double (FP.i2d (p4 % (1000 : Int32)))), .second, .val (.ref b21), .unset, .unset, .unset, .unset, .unset, .unset, .unset, .unset, .unset] []))
  refine OGets.step (fun _ => XS.lloadN X22.here hx rfl (hb hby at_21) rfl) ?_
  show OGets p e below _ (T22.setTop (mkF m 22 #[.val (.long p0), .second, .val (.long p1), .second, .val (.long p2), .second, .val (.long p3), .second, .val (.int p4), .val (.double (FP.i2d (p4 % (1000 : Int32)))), .second, .val (.ref b21), .unset, .unset, .unset, .unset, .unset, .unset, .unset, .unset, .unset] [(.long p1)]))
  refine OGets.step (fun _ => XS.lstore X22.here hx rfl (hb hby at_22) rfl (l' := #[.val (.long p0), .second, .val (.long p1), .second, .val (.long p2), .second, .val (.long p3), .second, .val (.int p4), .val (.double (FP.i2d (p4 % (1000 : Int32)))), .second, .val (.ref b21), .val (.long p1), .second, .unset, .unset, .unset, .unset, .unset, .unset, .unset]) rfl) ?_
  show OGets p e below _ (T22.setTop (mkF m 24 #[.val (.long p0), .second, .val (.long p1), .second, .val (.long p2), .second, .val (.long p3), .second, .val (.int p4), .val (.double (FP.i2d (p4 % (1000 : Int32)))), .second, .val (.ref b21), .val (.long p1), .second, .unset, .unset, .unset, .unset, .unset, .unset, .unset] []))
  refine OGets.step (fun _ => XS.aload X22.here hx rfl (hb hby at_24) rfl rfl) ?_
  show OGets p e below _ (T22.setTop (mkF m 26 #[.val (.long p0), .second, .val (.long p1), .second, .val (.long p2), .second, .val (.long p3), .second, .val (.int p4), .val (.double (FP.i2d (p4 % (1000 : Int32)))), .second, .val (.ref b21), .val (.long p1), .second, .unset, .unset, .unset, .unset, .unset, .unset, .unset] [(.ref b21)]))
  refine OGets.step (fun _ => XS.lloadN X22.here hx rfl (hb hby at_26) rfl) ?_
  show OGets p e below _ (T22.setTop (mkF m 27 #[.val (.long p0), .second, .val (.long p1), .second, .val (.long p2), .second, .val (.long p3), .second, .val (.int p4), .val (.double (FP.i2d (p4 % (1000 : Int32)))), .second, .val (.ref b21), .val (.long p1), .second, .unset, .unset, .unset, .unset, .unset, .unset, .unset] [(.long p1), (.ref b21)]))
  obtain ⟨cq23, kq23, q23a, q23b, q23c⟩ := isOf hZ rfl (V22v.exa 0 rfl)
  obtain ⟨_, _, ⟨T23, L23, k23, n23⟩, -, X23, ⟨Lc23, hQ23, l23, y23, z23⟩, st23⟩ := X22.virtualBack hx (y := (⟨"com/example/guarded_expansion/guardedexpansion/Amplification", "expand", "(J)Z"⟩ : MethodName)) (z := (⟨"com/example/guarded_expansion/guardedexpansion/Amplification", "expand", "(J)Z"⟩ : MethodName)) hown (mvT hZ (hw _ (List.mem_of_getElem? (i := 13) rfl))) (mvT hZ (hw _ (List.mem_of_getElem? (i := 14) rfl))) (notFace_of_selects (args := #[]) (mvT hZ (hw _ (List.mem_of_getElem? (i := 16) rfl)))) (mvT hZ (hw _ (List.mem_of_getElem? (i := 16) rfl))) (mvT hZ (hw _ (List.mem_of_getElem? (i := 15) rfl))) (by decide) (backOf (W := 0) (rm_exp l Z a0 hw [] b21 (FP.i2d (p4 % (1000 : Int32))) p0 (0 : Int64) z p1 T22.heap n0 ([]) Z22 hD hz V22v) hZ (hw _ (List.mem_of_getElem? (i := 17) rfl)) (hw _ (List.mem_of_getElem? (i := 2) rfl)) (by decide) (by decide)) q23a q23c (g := (mkF m 27 #[.val (.long p0), .second, .val (.long p1), .second, .val (.long p2), .second, .val (.long p3), .second, .val (.int p4), .val (.double (FP.i2d (p4 % (1000 : Int32)))), .second, .val (.ref b21), .val (.long p1), .second, .unset, .unset, .unset, .unset, .unset, .unset, .unset] [(.long p1), (.ref b21)])) rfl (by rw [hml]; rfl) (Steps.refl _) (argsL := [(.long p1)]) (rest := []) (lenOf pd_3 rfl) rfl (by show 2 * 0 + _ ≤ _; exact Nat.le_of_eq rfl) (hb hby at_27) (fun _ _ => ⟨rfl, rfl, Nat.le_of_ble_eq_true rfl, Nat.le_of_ble_eq_true rfl⟩)
  dsimp only [Pt.U, Pt.locs, Pt.cells, Pt.slots] at X23 l23 y23 z23 st23 hQ23
  rw [l23, y23, z23] at X23
  obtain ⟨rfl, N23q, V23⟩ := hQ23
  have N23 := Fr.app N22 N23q
  have V23v : OView Z n0 T23.heap (((b21, Sum.inl ("com/example/guarded_expansion/guardedexpansion/Amplification", ns_Amplification, [(.double (FP.i2d (p4 % (1000 : Int32)))), (.long p0), (.long ((0 : Int64) + p1)), (.long (0 : Int64))])) : Addr × OObj) :: []) := V23
  have Z23 : n0 ≤ T23.heap.size := V23v.big 0 rfl
  refine OGets.after st23 ?_
  show OGets p e below _ (T23.setTop (mkF m 30 #[.val (.long p0), .second, .val (.long p1), .second, .val (.long p2), .second, .val (.long p3), .second, .val (.int p4), .val (.double (FP.i2d (p4 % (1000 : Int32)))), .second, .val (.ref b21), .val (.long p1), .second, .unset, .unset, .unset, .unset, .unset, .unset, .unset] [(.int (fx p0 ((0 : Int64) + p1)))]))
  refine OGets.step (fun _ => XS.istore X23.here hx rfl (hb hby at_30) rfl (l' := #[.val (.long p0), .second, .val (.long p1), .second, .val (.long p2), .second, .val (.long p3), .second, .val (.int p4), .val (.double (FP.i2d (p4 % (1000 : Int32)))), .second, .val (.ref b21), .val (.long p1), .second, .val (.int (fx p0 ((0 : Int64) + p1))), .unset, .unset, .unset, .unset, .unset, .unset]) rfl) ?_
  show OGets p e below _ (T23.setTop (mkF m 32 #[.val (.long p0), .second, .val (.long p1), .second, .val (.long p2), .second, .val (.long p3), .second, .val (.int p4), .val (.double (FP.i2d (p4 % (1000 : Int32)))), .second, .val (.ref b21), .val (.long p1), .second, .val (.int (fx p0 ((0 : Int64) + p1))), .unset, .unset, .unset, .unset, .unset, .unset] []))
  refine OGets.step (fun _ => XS.lload X23.here hx rfl (hb hby at_32) rfl) ?_
  show OGets p e below _ (T23.setTop (mkF m 34 #[.val (.long p0), .second, .val (.long p1), .second, .val (.long p2), .second, .val (.long p3), .second, .val (.int p4), .val (.double (FP.i2d (p4 % (1000 : Int32)))), .second, .val (.ref b21), .val (.long p1), .second, .val (.int (fx p0 ((0 : Int64) + p1))), .unset, .unset, .unset, .unset, .unset, .unset] [(.long p1)]))
  refine OGets.step (fun _ => XS.lload X23.here hx rfl (hb hby at_34) rfl) ?_
  show OGets p e below _ (T23.setTop (mkF m 36 #[.val (.long p0), .second, .val (.long p1), .second, .val (.long p2), .second, .val (.long p3), .second, .val (.int p4), .val (.double (FP.i2d (p4 % (1000 : Int32)))), .second, .val (.ref b21), .val (.long p1), .second, .val (.int (fx p0 ((0 : Int64) + p1))), .unset, .unset, .unset, .unset, .unset, .unset] [(.long p2), (.long p1)]))
  refine OGets.step (fun _ => XS.ladd X23.here hx rfl (hb hby at_36) rfl) ?_
  show OGets p e below _ (T23.setTop (mkF m 37 #[.val (.long p0), .second, .val (.long p1), .second, .val (.long p2), .second, .val (.long p3), .second, .val (.int p4), .val (.double (FP.i2d (p4 % (1000 : Int32)))), .second, .val (.ref b21), .val (.long p1), .second, .val (.int (fx p0 ((0 : Int64) + p1))), .unset, .unset, .unset, .unset, .unset, .unset] [(.long (p1 + p2))]))
  refine OGets.step (fun _ => XS.lstore X23.here hx rfl (hb hby at_37) rfl (l' := #[.val (.long p0), .second, .val (.long p1), .second, .val (.long p2), .second, .val (.long p3), .second, .val (.int p4), .val (.double (FP.i2d (p4 % (1000 : Int32)))), .second, .val (.ref b21), .val (.long p1), .second, .val (.int (fx p0 ((0 : Int64) + p1))), .val (.long (p1 + p2)), .second, .unset, .unset, .unset, .unset]) rfl) ?_
  show OGets p e below _ (T23.setTop (mkF m 39 #[.val (.long p0), .second, .val (.long p1), .second, .val (.long p2), .second, .val (.long p3), .second, .val (.int p4), .val (.double (FP.i2d (p4 % (1000 : Int32)))), .second, .val (.ref b21), .val (.long p1), .second, .val (.int (fx p0 ((0 : Int64) + p1))), .val (.long (p1 + p2)), .second, .unset, .unset, .unset, .unset] []))
  refine OGets.step (fun _ => XS.aload X23.here hx rfl (hb hby at_39) rfl rfl) ?_
  show OGets p e below _ (T23.setTop (mkF m 41 #[.val (.long p0), .second, .val (.long p1), .second, .val (.long p2), .second, .val (.long p3), .second, .val (.int p4), .val (.double (FP.i2d (p4 % (1000 : Int32)))), .second, .val (.ref b21), .val (.long p1), .second, .val (.int (fx p0 ((0 : Int64) + p1))), .val (.long (p1 + p2)), .second, .unset, .unset, .unset, .unset] [(.ref b21)]))
  refine OGets.step (fun _ => XS.lload X23.here hx rfl (hb hby at_41) rfl) ?_
  show OGets p e below _ (T23.setTop (mkF m 43 #[.val (.long p0), .second, .val (.long p1), .second, .val (.long p2), .second, .val (.long p3), .second, .val (.int p4), .val (.double (FP.i2d (p4 % (1000 : Int32)))), .second, .val (.ref b21), .val (.long p1), .second, .val (.int (fx p0 ((0 : Int64) + p1))), .val (.long (p1 + p2)), .second, .unset, .unset, .unset, .unset] [(.long p2), (.ref b21)]))
  obtain ⟨cq24, kq24, q24a, q24b, q24c⟩ := isOf hZ rfl (V23v.exa 0 rfl)
  obtain ⟨_, _, ⟨T24, L24, k24, n24⟩, -, X24, ⟨Lc24, hQ24, l24, y24, z24⟩, st24⟩ := X23.virtualBack hx (y := (⟨"com/example/guarded_expansion/guardedexpansion/Amplification", "expand", "(J)Z"⟩ : MethodName)) (z := (⟨"com/example/guarded_expansion/guardedexpansion/Amplification", "expand", "(J)Z"⟩ : MethodName)) hown (mvT hZ (hw _ (List.mem_of_getElem? (i := 13) rfl))) (mvT hZ (hw _ (List.mem_of_getElem? (i := 14) rfl))) (notFace_of_selects (args := #[]) (mvT hZ (hw _ (List.mem_of_getElem? (i := 16) rfl)))) (mvT hZ (hw _ (List.mem_of_getElem? (i := 16) rfl))) (mvT hZ (hw _ (List.mem_of_getElem? (i := 15) rfl))) (by decide) (backOf (W := 0) (rm_exp l Z a0 hw [] b21 (FP.i2d (p4 % (1000 : Int32))) p0 ((0 : Int64) + p1) z p2 T23.heap n0 ([]) Z23 hD hz V23v) hZ (hw _ (List.mem_of_getElem? (i := 17) rfl)) (hw _ (List.mem_of_getElem? (i := 2) rfl)) (by decide) (by decide)) q24a q24c (g := (mkF m 43 #[.val (.long p0), .second, .val (.long p1), .second, .val (.long p2), .second, .val (.long p3), .second, .val (.int p4), .val (.double (FP.i2d (p4 % (1000 : Int32)))), .second, .val (.ref b21), .val (.long p1), .second, .val (.int (fx p0 ((0 : Int64) + p1))), .val (.long (p1 + p2)), .second, .unset, .unset, .unset, .unset] [(.long p2), (.ref b21)])) rfl (by rw [hml]; rfl) (Steps.refl _) (argsL := [(.long p2)]) (rest := []) (lenOf pd_3 rfl) rfl (by show 2 * 0 + _ ≤ _; exact Nat.le_of_eq rfl) (hb hby at_43) (fun _ _ => ⟨rfl, rfl, Nat.le_of_ble_eq_true rfl, Nat.le_of_ble_eq_true rfl⟩)
  dsimp only [Pt.U, Pt.locs, Pt.cells, Pt.slots] at X24 l24 y24 z24 st24 hQ24
  rw [l24, y24, z24] at X24
  obtain ⟨rfl, N24q, V24⟩ := hQ24
  have N24 := Fr.app N23 N24q
  have V24v : OView Z n0 T24.heap (((b21, Sum.inl ("com/example/guarded_expansion/guardedexpansion/Amplification", ns_Amplification, [(.double (FP.i2d (p4 % (1000 : Int32)))), (.long p0), (.long (((0 : Int64) + p1) + p2)), (.long (0 : Int64))])) : Addr × OObj) :: []) := V24
  have Z24 : n0 ≤ T24.heap.size := V24v.big 0 rfl
  refine OGets.after st24 ?_
  show OGets p e below _ (T24.setTop (mkF m 46 #[.val (.long p0), .second, .val (.long p1), .second, .val (.long p2), .second, .val (.long p3), .second, .val (.int p4), .val (.double (FP.i2d (p4 % (1000 : Int32)))), .second, .val (.ref b21), .val (.long p1), .second, .val (.int (fx p0 ((0 : Int64) + p1))), .val (.long (p1 + p2)), .second, .unset, .unset, .unset, .unset] [(.int (fx p0 (((0 : Int64) + p1) + p2)))]))
  refine OGets.step (fun _ => XS.istore X24.here hx rfl (hb hby at_46) rfl (l' := #[.val (.long p0), .second, .val (.long p1), .second, .val (.long p2), .second, .val (.long p3), .second, .val (.int p4), .val (.double (FP.i2d (p4 % (1000 : Int32)))), .second, .val (.ref b21), .val (.long p1), .second, .val (.int (fx p0 ((0 : Int64) + p1))), .val (.long (p1 + p2)), .second, .val (.int (fx p0 (((0 : Int64) + p1) + p2))), .unset, .unset, .unset]) rfl) ?_
  show OGets p e below _ (T24.setTop (mkF m 48 #[.val (.long p0), .second, .val (.long p1), .second, .val (.long p2), .second, .val (.long p3), .second, .val (.int p4), .val (.double (FP.i2d (p4 % (1000 : Int32)))), .second, .val (.ref b21), .val (.long p1), .second, .val (.int (fx p0 ((0 : Int64) + p1))), .val (.long (p1 + p2)), .second, .val (.int (fx p0 (((0 : Int64) + p1) + p2))), .unset, .unset, .unset] []))
  refine OGets.step (fun _ => XS.lload X24.here hx rfl (hb hby at_48) rfl) ?_
  show OGets p e below _ (T24.setTop (mkF m 50 #[.val (.long p0), .second, .val (.long p1), .second, .val (.long p2), .second, .val (.long p3), .second, .val (.int p4), .val (.double (FP.i2d (p4 % (1000 : Int32)))), .second, .val (.ref b21), .val (.long p1), .second, .val (.int (fx p0 ((0 : Int64) + p1))), .val (.long (p1 + p2)), .second, .val (.int (fx p0 (((0 : Int64) + p1) + p2))), .unset, .unset, .unset] [(.long (p1 + p2))]))
  refine OGets.step (fun _ => XS.lload X24.here hx rfl (hb hby at_50) rfl) ?_
  show OGets p e below _ (T24.setTop (mkF m 52 #[.val (.long p0), .second, .val (.long p1), .second, .val (.long p2), .second, .val (.long p3), .second, .val (.int p4), .val (.double (FP.i2d (p4 % (1000 : Int32)))), .second, .val (.ref b21), .val (.long p1), .second, .val (.int (fx p0 ((0 : Int64) + p1))), .val (.long (p1 + p2)), .second, .val (.int (fx p0 (((0 : Int64) + p1) + p2))), .unset, .unset, .unset] [(.long p3), (.long (p1 + p2))]))
  refine OGets.step (fun _ => XS.ladd X24.here hx rfl (hb hby at_52) rfl) ?_
  show OGets p e below _ (T24.setTop (mkF m 53 #[.val (.long p0), .second, .val (.long p1), .second, .val (.long p2), .second, .val (.long p3), .second, .val (.int p4), .val (.double (FP.i2d (p4 % (1000 : Int32)))), .second, .val (.ref b21), .val (.long p1), .second, .val (.int (fx p0 ((0 : Int64) + p1))), .val (.long (p1 + p2)), .second, .val (.int (fx p0 (((0 : Int64) + p1) + p2))), .unset, .unset, .unset] [(.long ((p1 + p2) + p3))]))
  refine OGets.step (fun _ => XS.lstore X24.here hx rfl (hb hby at_53) rfl (l' := #[.val (.long p0), .second, .val (.long p1), .second, .val (.long p2), .second, .val (.long p3), .second, .val (.int p4), .val (.double (FP.i2d (p4 % (1000 : Int32)))), .second, .val (.ref b21), .val (.long p1), .second, .val (.int (fx p0 ((0 : Int64) + p1))), .val (.long (p1 + p2)), .second, .val (.int (fx p0 (((0 : Int64) + p1) + p2))), .val (.long ((p1 + p2) + p3)), .second, .unset]) rfl) ?_
  show OGets p e below _ (T24.setTop (mkF m 55 #[.val (.long p0), .second, .val (.long p1), .second, .val (.long p2), .second, .val (.long p3), .second, .val (.int p4), .val (.double (FP.i2d (p4 % (1000 : Int32)))), .second, .val (.ref b21), .val (.long p1), .second, .val (.int (fx p0 ((0 : Int64) + p1))), .val (.long (p1 + p2)), .second, .val (.int (fx p0 (((0 : Int64) + p1) + p2))), .val (.long ((p1 + p2) + p3)), .second, .unset] []))
  refine OGets.step (fun _ => XS.aload X24.here hx rfl (hb hby at_55) rfl rfl) ?_
  show OGets p e below _ (T24.setTop (mkF m 57 #[.val (.long p0), .second, .val (.long p1), .second, .val (.long p2), .second, .val (.long p3), .second, .val (.int p4), .val (.double (FP.i2d (p4 % (1000 : Int32)))), .second, .val (.ref b21), .val (.long p1), .second, .val (.int (fx p0 ((0 : Int64) + p1))), .val (.long (p1 + p2)), .second, .val (.int (fx p0 (((0 : Int64) + p1) + p2))), .val (.long ((p1 + p2) + p3)), .second, .unset] [(.ref b21)]))
  refine OGets.step (fun _ => XS.lload X24.here hx rfl (hb hby at_57) rfl) ?_
  show OGets p e below _ (T24.setTop (mkF m 59 #[.val (.long p0), .second, .val (.long p1), .second, .val (.long p2), .second, .val (.long p3), .second, .val (.int p4), .val (.double (FP.i2d (p4 % (1000 : Int32)))), .second, .val (.ref b21), .val (.long p1), .second, .val (.int (fx p0 ((0 : Int64) + p1))), .val (.long (p1 + p2)), .second, .val (.int (fx p0 (((0 : Int64) + p1) + p2))), .val (.long ((p1 + p2) + p3)), .second, .unset] [(.long p3), (.ref b21)]))
  obtain ⟨cq25, kq25, q25a, q25b, q25c⟩ := isOf hZ rfl (V24v.exa 0 rfl)
  obtain ⟨_, _, ⟨T25, L25, k25, n25⟩, -, X25, ⟨Lc25, hQ25, l25, y25, z25⟩, st25⟩ := X24.virtualBack hx (y := (⟨"com/example/guarded_expansion/guardedexpansion/Amplification", "expand", "(J)Z"⟩ : MethodName)) (z := (⟨"com/example/guarded_expansion/guardedexpansion/Amplification", "expand", "(J)Z"⟩ : MethodName)) hown (mvT hZ (hw _ (List.mem_of_getElem? (i := 13) rfl))) (mvT hZ (hw _ (List.mem_of_getElem? (i := 14) rfl))) (notFace_of_selects (args := #[]) (mvT hZ (hw _ (List.mem_of_getElem? (i := 16) rfl)))) (mvT hZ (hw _ (List.mem_of_getElem? (i := 16) rfl))) (mvT hZ (hw _ (List.mem_of_getElem? (i := 15) rfl))) (by decide) (backOf (W := 0) (rm_exp l Z a0 hw [] b21 (FP.i2d (p4 % (1000 : Int32))) p0 (((0 : Int64) + p1) + p2) z p3 T24.heap n0 ([]) Z24 hD hz V24v) hZ (hw _ (List.mem_of_getElem? (i := 17) rfl)) (hw _ (List.mem_of_getElem? (i := 2) rfl)) (by decide) (by decide)) q25a q25c (g := (mkF m 59 #[.val (.long p0), .second, .val (.long p1), .second, .val (.long p2), .second, .val (.long p3), .second, .val (.int p4), .val (.double (FP.i2d (p4 % (1000 : Int32)))), .second, .val (.ref b21), .val (.long p1), .second, .val (.int (fx p0 ((0 : Int64) + p1))), .val (.long (p1 + p2)), .second, .val (.int (fx p0 (((0 : Int64) + p1) + p2))), .val (.long ((p1 + p2) + p3)), .second, .unset] [(.long p3), (.ref b21)])) rfl (by rw [hml]; rfl) (Steps.refl _) (argsL := [(.long p3)]) (rest := []) (lenOf pd_3 rfl) rfl (by show 2 * 0 + _ ≤ _; exact Nat.le_of_eq rfl) (hb hby at_59) (fun _ _ => ⟨rfl, rfl, Nat.le_of_ble_eq_true rfl, Nat.le_of_ble_eq_true rfl⟩)
  dsimp only [Pt.U, Pt.locs, Pt.cells, Pt.slots] at X25 l25 y25 z25 st25 hQ25
  rw [l25, y25, z25] at X25
  obtain ⟨rfl, N25q, V25⟩ := hQ25
  have N25 := Fr.app N24 N25q
  have V25v : OView Z n0 T25.heap (((b21, Sum.inl ("com/example/guarded_expansion/guardedexpansion/Amplification", ns_Amplification, [(.double (FP.i2d (p4 % (1000 : Int32)))), (.long p0), (.long ((((0 : Int64) + p1) + p2) + p3)), (.long (0 : Int64))])) : Addr × OObj) :: []) := V25
  have Z25 : n0 ≤ T25.heap.size := V25v.big 0 rfl
  refine OGets.after st25 ?_
  show OGets p e below _ (T25.setTop (mkF m 62 #[.val (.long p0), .second, .val (.long p1), .second, .val (.long p2), .second, .val (.long p3), .second, .val (.int p4), .val (.double (FP.i2d (p4 % (1000 : Int32)))), .second, .val (.ref b21), .val (.long p1), .second, .val (.int (fx p0 ((0 : Int64) + p1))), .val (.long (p1 + p2)), .second, .val (.int (fx p0 (((0 : Int64) + p1) + p2))), .val (.long ((p1 + p2) + p3)), .second, .unset] [(.int (fx p0 ((((0 : Int64) + p1) + p2) + p3)))]))
  refine OGets.step (fun _ => XS.istore X25.here hx rfl (hb hby at_62) rfl (l' := #[.val (.long p0), .second, .val (.long p1), .second, .val (.long p2), .second, .val (.long p3), .second, .val (.int p4), .val (.double (FP.i2d (p4 % (1000 : Int32)))), .second, .val (.ref b21), .val (.long p1), .second, .val (.int (fx p0 ((0 : Int64) + p1))), .val (.long (p1 + p2)), .second, .val (.int (fx p0 (((0 : Int64) + p1) + p2))), .val (.long ((p1 + p2) + p3)), .second, .val (.int (fx p0 ((((0 : Int64) + p1) + p2) + p3)))]) rfl) ?_
  show OGets p e below _ (T25.setTop (mkF m 64 #[.val (.long p0), .second, .val (.long p1), .second, .val (.long p2), .second, .val (.long p3), .second, .val (.int p4), .val (.double (FP.i2d (p4 % (1000 : Int32)))), .second, .val (.ref b21), .val (.long p1), .second, .val (.int (fx p0 ((0 : Int64) + p1))), .val (.long (p1 + p2)), .second, .val (.int (fx p0 (((0 : Int64) + p1) + p2))), .val (.long ((p1 + p2) + p3)), .second, .val (.int (fx p0 ((((0 : Int64) + p1) + p2) + p3)))] []))
  refine OGets.step (fun _ => XS.iload X25.here hx rfl (hb hby at_64) rfl) ?_
  show OGets p e below _ (T25.setTop (mkF m 66 #[.val (.long p0), .second, .val (.long p1), .second, .val (.long p2), .second, .val (.long p3), .second, .val (.int p4), .val (.double (FP.i2d (p4 % (1000 : Int32)))), .second, .val (.ref b21), .val (.long p1), .second, .val (.int (fx p0 ((0 : Int64) + p1))), .val (.long (p1 + p2)), .second, .val (.int (fx p0 (((0 : Int64) + p1) + p2))), .val (.long ((p1 + p2) + p3)), .second, .val (.int (fx p0 ((((0 : Int64) + p1) + p2) + p3)))] [(.int (fx p0 ((0 : Int64) + p1)))]))
  refine OGets.step (fun _ => XS.lload X25.here hx rfl (hb hby at_66) rfl) ?_
  show OGets p e below _ (T25.setTop (mkF m 68 #[.val (.long p0), .second, .val (.long p1), .second, .val (.long p2), .second, .val (.long p3), .second, .val (.int p4), .val (.double (FP.i2d (p4 % (1000 : Int32)))), .second, .val (.ref b21), .val (.long p1), .second, .val (.int (fx p0 ((0 : Int64) + p1))), .val (.long (p1 + p2)), .second, .val (.int (fx p0 (((0 : Int64) + p1) + p2))), .val (.long ((p1 + p2) + p3)), .second, .val (.int (fx p0 ((((0 : Int64) + p1) + p2) + p3)))] [(.long p1), (.int (fx p0 ((0 : Int64) + p1)))]))
  refine OGets.step (fun _ => XS.lloadN X25.here hx rfl (hb hby at_68) rfl) ?_
  show OGets p e below _ (T25.setTop (mkF m 69 #[.val (.long p0), .second, .val (.long p1), .second, .val (.long p2), .second, .val (.long p3), .second, .val (.int p4), .val (.double (FP.i2d (p4 % (1000 : Int32)))), .second, .val (.ref b21), .val (.long p1), .second, .val (.int (fx p0 ((0 : Int64) + p1))), .val (.long (p1 + p2)), .second, .val (.int (fx p0 (((0 : Int64) + p1) + p2))), .val (.long ((p1 + p2) + p3)), .second, .val (.int (fx p0 ((((0 : Int64) + p1) + p2) + p3)))] [(.long p0), (.long p1), (.int (fx p0 ((0 : Int64) + p1)))]))
  obtain ⟨_, _, ⟨T26, L26, k26, n26⟩, -, X26, ⟨Lc26, hQ26, l26, y26, z26⟩, st26⟩ := Jvm.LawKit.callS X25 hx (y := (⟨"com/example/guarded_expansion/guardedexpansion/AmplificationExpandPinLaw", "ref", "(JJ)Z"⟩ : MethodName)) hown (mvT hZ (hw _ (List.mem_of_getElem? (i := 20) rfl))) (mvT hZ (hw _ (List.mem_of_getElem? (i := 21) rfl))) (mvT hZ (hw _ (List.mem_of_getElem? (i := 22) rfl))) (mvT hZ (hw _ (List.mem_of_getElem? (i := 23) rfl))) (by decide) (backOf (W := 1) (rm_refc l Z a0 hw [] p1 p0 T25.heap n0  Z25 ) hZ (hw _ (List.mem_of_getElem? (i := 23) rfl)) (hw _ (List.mem_of_getElem? (i := 22) rfl)) (by decide) (by decide)) (g := (mkF m 69 #[.val (.long p0), .second, .val (.long p1), .second, .val (.long p2), .second, .val (.long p3), .second, .val (.int p4), .val (.double (FP.i2d (p4 % (1000 : Int32)))), .second, .val (.ref b21), .val (.long p1), .second, .val (.int (fx p0 ((0 : Int64) + p1))), .val (.long (p1 + p2)), .second, .val (.int (fx p0 (((0 : Int64) + p1) + p2))), .val (.long ((p1 + p2) + p3)), .second, .val (.int (fx p0 ((((0 : Int64) + p1) + p2) + p3)))] [(.long p0), (.long p1), (.int (fx p0 ((0 : Int64) + p1)))])) rfl (by rw [hml]; rfl) (argsL := [(.long p1), (.long p0)]) (rest := [(.int (fx p0 ((0 : Int64) + p1)))]) (lenOf pd_4 rfl) rfl (by show 2 * 0 + _ ≤ _; exact Nat.le_of_eq rfl) (hb hby at_69) (fun _ _ => ⟨rfl, rfl, Nat.le_of_ble_eq_true rfl, Nat.le_of_ble_eq_true rfl⟩)
  dsimp only [Pt.U, Pt.locs, Pt.cells, Pt.slots] at X26 l26 y26 z26 st26 hQ26
  rw [l26, y26, z26] at X26
  obtain ⟨rfl, rfl, e26⟩ := hQ26
  have N26 := Fr.app N25 (Fr.nil n0)
  refine OGets.step st26 ?_
  show OGets p e below _ (T26.setTop (mkF m 72 #[.val (.long p0), .second, .val (.long p1), .second, .val (.long p2), .second, .val (.long p3), .second, .val (.int p4), .val (.double (FP.i2d (p4 % (1000 : Int32)))), .second, .val (.ref b21), .val (.long p1), .second, .val (.int (fx p0 ((0 : Int64) + p1))), .val (.long (p1 + p2)), .second, .val (.int (fx p0 (((0 : Int64) + p1) + p2))), .val (.long ((p1 + p2) + p3)), .second, .val (.int (fx p0 ((((0 : Int64) + p1) + p2) + p3)))] [(.int (f_refc p1 p0)), (.int (fx p0 ((0 : Int64) + p1)))]))
  refine OGets.step (fun _ => XS.icmpNo X26.here hx rfl (hb hby at_72) rfl (teq ((own_fx _ _).trans (congrArg (fun q => f_refc q _) (Int64.zero_add _)) : (fx p0 ((0 : Int64) + p1)) = (f_refc p1 p0))).2) ?_
  show OGets p e below _ (T26.setTop (mkF m 75 #[.val (.long p0), .second, .val (.long p1), .second, .val (.long p2), .second, .val (.long p3), .second, .val (.int p4), .val (.double (FP.i2d (p4 % (1000 : Int32)))), .second, .val (.ref b21), .val (.long p1), .second, .val (.int (fx p0 ((0 : Int64) + p1))), .val (.long (p1 + p2)), .second, .val (.int (fx p0 (((0 : Int64) + p1) + p2))), .val (.long ((p1 + p2) + p3)), .second, .val (.int (fx p0 ((((0 : Int64) + p1) + p2) + p3)))] []))
  refine OGets.step (fun _ => XS.iload X26.here hx rfl (hb hby at_75) rfl) ?_
  show OGets p e below _ (T26.setTop (mkF m 77 #[.val (.long p0), .second, .val (.long p1), .second, .val (.long p2), .second, .val (.long p3), .second, .val (.int p4), .val (.double (FP.i2d (p4 % (1000 : Int32)))), .second, .val (.ref b21), .val (.long p1), .second, .val (.int (fx p0 ((0 : Int64) + p1))), .val (.long (p1 + p2)), .second, .val (.int (fx p0 (((0 : Int64) + p1) + p2))), .val (.long ((p1 + p2) + p3)), .second, .val (.int (fx p0 ((((0 : Int64) + p1) + p2) + p3)))] [(.int (fx p0 (((0 : Int64) + p1) + p2)))]))
  refine OGets.step (fun _ => XS.lload X26.here hx rfl (hb hby at_77) rfl) ?_
  show OGets p e below _ (T26.setTop (mkF m 79 #[.val (.long p0), .second, .val (.long p1), .second, .val (.long p2), .second, .val (.long p3), .second, .val (.int p4), .val (.double (FP.i2d (p4 % (1000 : Int32)))), .second, .val (.ref b21), .val (.long p1), .second, .val (.int (fx p0 ((0 : Int64) + p1))), .val (.long (p1 + p2)), .second, .val (.int (fx p0 (((0 : Int64) + p1) + p2))), .val (.long ((p1 + p2) + p3)), .second, .val (.int (fx p0 ((((0 : Int64) + p1) + p2) + p3)))] [(.long (p1 + p2)), (.int (fx p0 (((0 : Int64) + p1) + p2)))]))
  refine OGets.step (fun _ => XS.lloadN X26.here hx rfl (hb hby at_79) rfl) ?_
  show OGets p e below _ (T26.setTop (mkF m 80 #[.val (.long p0), .second, .val (.long p1), .second, .val (.long p2), .second, .val (.long p3), .second, .val (.int p4), .val (.double (FP.i2d (p4 % (1000 : Int32)))), .second, .val (.ref b21), .val (.long p1), .second, .val (.int (fx p0 ((0 : Int64) + p1))), .val (.long (p1 + p2)), .second, .val (.int (fx p0 (((0 : Int64) + p1) + p2))), .val (.long ((p1 + p2) + p3)), .second, .val (.int (fx p0 ((((0 : Int64) + p1) + p2) + p3)))] [(.long p0), (.long (p1 + p2)), (.int (fx p0 (((0 : Int64) + p1) + p2)))]))
  obtain ⟨_, _, ⟨T28, L28, k28, n28⟩, -, X28, ⟨Lc28, hQ28, l28, y28, z28⟩, st28⟩ := Jvm.LawKit.callS X26 hx (y := (⟨"com/example/guarded_expansion/guardedexpansion/AmplificationExpandPinLaw", "ref", "(JJ)Z"⟩ : MethodName)) hown (mvT hZ (hw _ (List.mem_of_getElem? (i := 20) rfl))) (mvT hZ (hw _ (List.mem_of_getElem? (i := 21) rfl))) (mvT hZ (hw _ (List.mem_of_getElem? (i := 22) rfl))) (mvT hZ (hw _ (List.mem_of_getElem? (i := 23) rfl))) (by decide) (backOf (W := 1) (rm_refc l Z a0 hw [] (p1 + p2) p0 T25.heap n0  Z25 ) hZ (hw _ (List.mem_of_getElem? (i := 23) rfl)) (hw _ (List.mem_of_getElem? (i := 22) rfl)) (by decide) (by decide)) (g := (mkF m 80 #[.val (.long p0), .second, .val (.long p1), .second, .val (.long p2), .second, .val (.long p3), .second, .val (.int p4), .val (.double (FP.i2d (p4 % (1000 : Int32)))), .second, .val (.ref b21), .val (.long p1), .second, .val (.int (fx p0 ((0 : Int64) + p1))), .val (.long (p1 + p2)), .second, .val (.int (fx p0 (((0 : Int64) + p1) + p2))), .val (.long ((p1 + p2) + p3)), .second, .val (.int (fx p0 ((((0 : Int64) + p1) + p2) + p3)))] [(.long p0), (.long (p1 + p2)), (.int (fx p0 (((0 : Int64) + p1) + p2)))])) rfl (by rw [hml]; rfl) (argsL := [(.long (p1 + p2)), (.long p0)]) (rest := [(.int (fx p0 (((0 : Int64) + p1) + p2)))]) (lenOf pd_4 rfl) rfl (by show 2 * 0 + _ ≤ _; exact Nat.le_of_eq rfl) (hb hby at_80) (fun _ _ => ⟨rfl, e26, Nat.le_of_ble_eq_true rfl, Nat.le_of_ble_eq_true rfl⟩)
  dsimp only [Pt.U, Pt.locs, Pt.cells, Pt.slots] at X28 l28 y28 z28 st28 hQ28
  rw [l28, y28, z28] at X28
  obtain ⟨rfl, rfl, e28⟩ := hQ28
  have N28 := Fr.app N26 (Fr.nil n0)
  refine OGets.step st28 ?_
  show OGets p e below _ (T28.setTop (mkF m 83 #[.val (.long p0), .second, .val (.long p1), .second, .val (.long p2), .second, .val (.long p3), .second, .val (.int p4), .val (.double (FP.i2d (p4 % (1000 : Int32)))), .second, .val (.ref b21), .val (.long p1), .second, .val (.int (fx p0 ((0 : Int64) + p1))), .val (.long (p1 + p2)), .second, .val (.int (fx p0 (((0 : Int64) + p1) + p2))), .val (.long ((p1 + p2) + p3)), .second, .val (.int (fx p0 ((((0 : Int64) + p1) + p2) + p3)))] [(.int (f_refc (p1 + p2) p0)), (.int (fx p0 (((0 : Int64) + p1) + p2)))]))
  refine OGets.step (fun _ => XS.icmpNo X28.here hx rfl (hb hby at_83) rfl (teq ((own_fx _ _).trans (congrArg (fun q => f_refc q _) (by rw [Int64.zero_add])) : (fx p0 (((0 : Int64) + p1) + p2)) = (f_refc (p1 + p2) p0))).2) ?_
  show OGets p e below _ (T28.setTop (mkF m 86 #[.val (.long p0), .second, .val (.long p1), .second, .val (.long p2), .second, .val (.long p3), .second, .val (.int p4), .val (.double (FP.i2d (p4 % (1000 : Int32)))), .second, .val (.ref b21), .val (.long p1), .second, .val (.int (fx p0 ((0 : Int64) + p1))), .val (.long (p1 + p2)), .second, .val (.int (fx p0 (((0 : Int64) + p1) + p2))), .val (.long ((p1 + p2) + p3)), .second, .val (.int (fx p0 ((((0 : Int64) + p1) + p2) + p3)))] []))
  refine OGets.step (fun _ => XS.iload X28.here hx rfl (hb hby at_86) rfl) ?_
  show OGets p e below _ (T28.setTop (mkF m 88 #[.val (.long p0), .second, .val (.long p1), .second, .val (.long p2), .second, .val (.long p3), .second, .val (.int p4), .val (.double (FP.i2d (p4 % (1000 : Int32)))), .second, .val (.ref b21), .val (.long p1), .second, .val (.int (fx p0 ((0 : Int64) + p1))), .val (.long (p1 + p2)), .second, .val (.int (fx p0 (((0 : Int64) + p1) + p2))), .val (.long ((p1 + p2) + p3)), .second, .val (.int (fx p0 ((((0 : Int64) + p1) + p2) + p3)))] [(.int (fx p0 ((((0 : Int64) + p1) + p2) + p3)))]))
  refine OGets.step (fun _ => XS.lload X28.here hx rfl (hb hby at_88) rfl) ?_
  show OGets p e below _ (T28.setTop (mkF m 90 #[.val (.long p0), .second, .val (.long p1), .second, .val (.long p2), .second, .val (.long p3), .second, .val (.int p4), .val (.double (FP.i2d (p4 % (1000 : Int32)))), .second, .val (.ref b21), .val (.long p1), .second, .val (.int (fx p0 ((0 : Int64) + p1))), .val (.long (p1 + p2)), .second, .val (.int (fx p0 (((0 : Int64) + p1) + p2))), .val (.long ((p1 + p2) + p3)), .second, .val (.int (fx p0 ((((0 : Int64) + p1) + p2) + p3)))] [(.long ((p1 + p2) + p3)), (.int (fx p0 ((((0 : Int64) + p1) + p2) + p3)))]))
  refine OGets.step (fun _ => XS.lloadN X28.here hx rfl (hb hby at_90) rfl) ?_
  show OGets p e below _ (T28.setTop (mkF m 91 #[.val (.long p0), .second, .val (.long p1), .second, .val (.long p2), .second, .val (.long p3), .second, .val (.int p4), .val (.double (FP.i2d (p4 % (1000 : Int32)))), .second, .val (.ref b21), .val (.long p1), .second, .val (.int (fx p0 ((0 : Int64) + p1))), .val (.long (p1 + p2)), .second, .val (.int (fx p0 (((0 : Int64) + p1) + p2))), .val (.long ((p1 + p2) + p3)), .second, .val (.int (fx p0 ((((0 : Int64) + p1) + p2) + p3)))] [(.long p0), (.long ((p1 + p2) + p3)), (.int (fx p0 ((((0 : Int64) + p1) + p2) + p3)))]))
  obtain ⟨_, _, ⟨T30, L30, k30, n30⟩, -, X30, ⟨Lc30, hQ30, l30, y30, z30⟩, st30⟩ := Jvm.LawKit.callS X28 hx (y := (⟨"com/example/guarded_expansion/guardedexpansion/AmplificationExpandPinLaw", "ref", "(JJ)Z"⟩ : MethodName)) hown (mvT hZ (hw _ (List.mem_of_getElem? (i := 20) rfl))) (mvT hZ (hw _ (List.mem_of_getElem? (i := 21) rfl))) (mvT hZ (hw _ (List.mem_of_getElem? (i := 22) rfl))) (mvT hZ (hw _ (List.mem_of_getElem? (i := 23) rfl))) (by decide) (backOf (W := 1) (rm_refc l Z a0 hw [] ((p1 + p2) + p3) p0 T25.heap n0  Z25 ) hZ (hw _ (List.mem_of_getElem? (i := 23) rfl)) (hw _ (List.mem_of_getElem? (i := 22) rfl)) (by decide) (by decide)) (g := (mkF m 91 #[.val (.long p0), .second, .val (.long p1), .second, .val (.long p2), .second, .val (.long p3), .second, .val (.int p4), .val (.double (FP.i2d (p4 % (1000 : Int32)))), .second, .val (.ref b21), .val (.long p1), .second, .val (.int (fx p0 ((0 : Int64) + p1))), .val (.long (p1 + p2)), .second, .val (.int (fx p0 (((0 : Int64) + p1) + p2))), .val (.long ((p1 + p2) + p3)), .second, .val (.int (fx p0 ((((0 : Int64) + p1) + p2) + p3)))] [(.long p0), (.long ((p1 + p2) + p3)), (.int (fx p0 ((((0 : Int64) + p1) + p2) + p3)))])) rfl (by rw [hml]; rfl) (argsL := [(.long ((p1 + p2) + p3)), (.long p0)]) (rest := [(.int (fx p0 ((((0 : Int64) + p1) + p2) + p3)))]) (lenOf pd_4 rfl) rfl (by show 2 * 0 + _ ≤ _; exact Nat.le_of_eq rfl) (hb hby at_91) (fun _ _ => ⟨rfl, e28, Nat.le_of_ble_eq_true rfl, Nat.le_of_ble_eq_true rfl⟩)
  dsimp only [Pt.U, Pt.locs, Pt.cells, Pt.slots] at X30 l30 y30 z30 st30 hQ30
  rw [l30, y30, z30] at X30
  obtain ⟨rfl, rfl, e30⟩ := hQ30
  have N30 := Fr.app N28 (Fr.nil n0)
  refine OGets.step st30 ?_
  show OGets p e below _ (T30.setTop (mkF m 94 #[.val (.long p0), .second, .val (.long p1), .second, .val (.long p2), .second, .val (.long p3), .second, .val (.int p4), .val (.double (FP.i2d (p4 % (1000 : Int32)))), .second, .val (.ref b21), .val (.long p1), .second, .val (.int (fx p0 ((0 : Int64) + p1))), .val (.long (p1 + p2)), .second, .val (.int (fx p0 (((0 : Int64) + p1) + p2))), .val (.long ((p1 + p2) + p3)), .second, .val (.int (fx p0 ((((0 : Int64) + p1) + p2) + p3)))] [(.int (f_refc ((p1 + p2) + p3) p0)), (.int (fx p0 ((((0 : Int64) + p1) + p2) + p3)))]))
  refine OGets.step (fun _ => XS.icmpNo X30.here hx rfl (hb hby at_94) rfl (teq ((own_fx _ _).trans (congrArg (fun q => f_refc q _) (by rw [Int64.zero_add])) : (fx p0 ((((0 : Int64) + p1) + p2) + p3)) = (f_refc ((p1 + p2) + p3) p0))).2) ?_
  show OGets p e below _ (T30.setTop (mkF m 97 #[.val (.long p0), .second, .val (.long p1), .second, .val (.long p2), .second, .val (.long p3), .second, .val (.int p4), .val (.double (FP.i2d (p4 % (1000 : Int32)))), .second, .val (.ref b21), .val (.long p1), .second, .val (.int (fx p0 ((0 : Int64) + p1))), .val (.long (p1 + p2)), .second, .val (.int (fx p0 (((0 : Int64) + p1) + p2))), .val (.long ((p1 + p2) + p3)), .second, .val (.int (fx p0 ((((0 : Int64) + p1) + p2) + p3)))] []))
  refine OGets.step (fun _ => XS.iconst X30.here hx rfl (hb hby at_97)) ?_
  show OGets p e below _ (T30.setTop (mkF m 98 #[.val (.long p0), .second, .val (.long p1), .second, .val (.long p2), .second, .val (.long p3), .second, .val (.int p4), .val (.double (FP.i2d (p4 % (1000 : Int32)))), .second, .val (.ref b21), .val (.long p1), .second, .val (.int (fx p0 ((0 : Int64) + p1))), .val (.long (p1 + p2)), .second, .val (.int (fx p0 (((0 : Int64) + p1) + p2))), .val (.long ((p1 + p2) + p3)), .second, .val (.int (fx p0 ((((0 : Int64) + p1) + p2) + p3)))] [(.int (1 : Int32))]))
  refine OGets.step (fun _ => XS.goto X30.here hx rfl (pc0 := 98) (pc' := 102) rfl (hb hby at_98) (by decide) (by decide)) ?_
  show OGets p e below _ (T30.setTop (mkF m 102 #[.val (.long p0), .second, .val (.long p1), .second, .val (.long p2), .second, .val (.long p3), .second, .val (.int p4), .val (.double (FP.i2d (p4 % (1000 : Int32)))), .second, .val (.ref b21), .val (.long p1), .second, .val (.int (fx p0 ((0 : Int64) + p1))), .val (.long (p1 + p2)), .second, .val (.int (fx p0 (((0 : Int64) + p1) + p2))), .val (.long ((p1 + p2) + p3)), .second, .val (.int (fx p0 ((((0 : Int64) + p1) + p2) + p3)))] [(.int (1 : Int32))]))
  refine OGets.retN X30 hx hlk (t := .boolean) Bd.returns (by simp) (hb hby at_102) (Nat.le_of_ble_eq_true rfl) (Nat.le_of_ble_eq_true rfl) ?_
  exact ⟨rfl, N30⟩
set_option maxRecDepth 65536 in
set_option maxHeartbeats 40000000 in
theorem comes_1 {Post : Tables → Env → Array Value → State → Outcome → State → Prop} (hpost : ∀ tb e args s v u, (limb_1_1.after args s (.returned v) u = true ∧ limb_1_2.after args s (.returned v) u = true ∧ True) → FrameEnd s (.returned v) u (Jvm.fieldLocs frame_1_writes args s ++ Jvm.arrayLocs frame_1_arrays args s ++ Jvm.staticLocs frame_1_statics s) 16 128 → Post tb e args s (.returned v) u) :
    ArmFor flags0 classFile x code maxLocals ret World_1 tables_1 room_1 Calls_1 rest_1 Pre_1 Post := by
  intro l hfl _ _ p e ha hc hk s m args below hf hA hF happ hP
  obtain ⟨hcalls, hrest, hpre⟩ := hP
  obtain ⟨-, -, -, hnamed, -, -, -, hat⟩ := (Spec.applies_iff hf).mp happ
  obtain ⟨hg, hn⟩ := and_e (Cond.before_iff.mp (show (Jvm.Cond.and given_1 narrow_1).before args s = true from hpre))
  obtain ⟨hcount, hg0⟩ := and_e hg
  obtain ⟨ga0, hg1⟩ := and_e hg0
  obtain ⟨ga1, hg2⟩ := and_e hg1
  obtain ⟨ga2, hg3⟩ := and_e hg2
  obtain ⟨ga3, hg4⟩ := and_e hg3
  have ga4 := hg4
  obtain ⟨w0, w1, w2, w3, w4, rfl⟩ : ∃ w0 w1 w2 w3 w4 : Value, args = #[w0, w1, w2, w3, w4] := by
    have hs : args.size = 5 := by simpa [Cond.value, given_1] using hcount
    obtain ⟨L⟩ := args
    match L, hs with
    | [w0, w1, w2, w3, w4], _ => exact ⟨w0, w1, w2, w3, w4, rfl⟩
  have hw := fun d (hd : d ∈ tables_1) => atoms_spec (ws := Jvm.Cond.code x code maxLocals ret :: tables_1) hat d (List.mem_cons_of_mem _ hd)
  have hfit : Fit s := fun {y c} hc i hi => by
    obtain ⟨ha, rfl⟩ := Array.getElem?_eq_some_iff.mp hc
    have q := List.all_eq_true.mp ((Array.all_eq_true_iff_forall_mem.mp hF) _ (Array.getElem_mem ha)) i (List.mem_range.mpr hi)
    simpa [Array.getElem?_eq_getElem hi] using q
  obtain ⟨i0, ei0⟩ := isL_v ga0
  obtain rfl : w0 = (.long i0) := Option.some.inj ei0
  obtain ⟨i1, ei1⟩ := isL_v ga1
  obtain rfl : w1 = (.long i1) := Option.some.inj ei1
  obtain ⟨i2, ei2⟩ := isL_v ga2
  obtain rfl : w2 = (.long i2) := Option.some.inj ei2
  obtain ⟨i3, ei3⟩ := isL_v ga3
  obtain rfl : w3 = (.long i3) := Option.some.inj ei3
  obtain ⟨i4, ei4⟩ := is_v ga4
  obtain rfl : w4 = (.int i4) := Option.some.inj ei4
  obtain ⟨n, o, h1, h2, h3, _, L, rfl, ⟨rfl, N⟩, hq⟩ := rm_law l s _ hw tables_1 i0 i1 i2 i3 i4 s.heap s.heap.size (Nat.le_refl _)  (OView.nil _ _ _) p e ha hc hk s m _ below hf ((Spec.applies_iff_loose hf).mp happ).1 ⟨rfl, State.Warmed39.refl s, rfl⟩ trivial
  refine ⟨n, _, h1, h2, h3, hpost _ _ _ _ _ _ ⟨Cond.after_iff.mpr rfl, Cond.after_iff.mpr (eq_i res_at (Term.int_eval (1)) rfl), trivial⟩ ⟨hq.1, hq.2.1, (hq.2.2.sift fun y hy => Or.inr (N y hy)).mono (by decide) (by decide)⟩⟩
theorem main_1_1 : Claimed_1_1 := comes_1 fun _ _ _ _ _ _ h hF => ⟨h.1, hF⟩
theorem main_1_2 : Claimed_1_2 := comes_1 fun _ _ _ _ _ _ h hF => ⟨h.2.1, hF⟩
end Jvm.Pilot.@@N@@
namespace Jvm.Pilot.@@N@@
open Jvm Jvm.ClassFile Sem Op Lib Jvm.Free Jvm.Stand Jvm.Pilot.@@N@@.Jvm.D
/-! MADE BY PROGRAM (witnessworld.py) out of the Statement's table words and the real class files: 9 classes; the members and pool entries that the words name. The judged class is class 1, her method 2. -/
namespace start1
open Jvm.ClassFile
def u (s : String) : CpInfo := .utf8 (stringToUtf16 s)
/-- a pool by its gaps: so many unusable entries, then the entry; so many at the end -/
def gap : Nat → List CpInfo → List CpInfo
  | 0, r => r
  | n + 1, r => .unusable :: gap n r
def poolList (es : List (Nat × CpInfo)) (last : Nat) : List CpInfo := es.foldr (fun e r => gap e.1 (e.2 :: r)) (gap last [])
def pool (es : List (Nat × CpInfo)) (last : Nat) : Array CpInfo := ⟨poolList es last⟩
def fileOf (pool : Array CpInfo) (this : Nat) (attrs : Array Attribute := #[]) (ms : Array MethodInfo := #[]) (fl : Nat := 33) (sup : Nat := 0) (ifs : Array Nat := #[]) (fds : Array FieldInfo := #[]) : ClassFile where
  minorVersion := 0
  majorVersion := 65
  constantPool := pool
  accessFlags := fl
  thisClass := this
  superClass := sup
  interfaces := ifs
  fields := fds
  methods := ms
  attributes := attrs
def plain (name : String) (sup : Option ClassId) : Class where
  name := name
  kind := .ordinary
  loader := none
  accessFlags := 33
  super := sup
  interfaces := #[]
  cf := none
  fields := #[]
  methods := #[]
  instanceTypes := #[]
  staticTypes := #[]
  resolved := #[]
  callSites := []
  init := .initialized
  statics := none
  mirror := none

def pool0 : Array CpInfo := pool [(5, u "<init>"), (0, u "()V"), (1, .class_ 10), (1, u "java/lang/Object")] 113

def k0c0 : Code := { maxStack := 0, maxLocals := 1, code := object_method_1_code, exceptionTable := #[], attributes := #[] }
def k0m0 : Method := { name := "<init>", desc := "()V", sig := { parameters := [], returnType := none }, accessFlags := 1, code := some k0c0 }
/-- java/lang/Object -/
def k0 : Class := { plain "java/lang/Object" none with
  accessFlags := 33
  interfaces := #[]
  cf := some (fileOf pool0 8 #[] #[{ accessFlags := 1, nameIndex := 5, descriptorIndex := 6, attributes := #[] }] 33 0 #[] #[])
  fields := #[]
  methods := #[k0m0]
  instanceTypes := #[]
  staticTypes := #[]
  resolved := Array.replicate 124 none
  statics := none }

def pool1 : Array CpInfo := pool [(2, .class_ 4), (1, u "java/lang/Object"), (0, u "<init>"), (0, u "()V"), (0, .class_ 8), (0, u "com/example/guarded_expansion/guardedexpansion/Amplification"), (0, .methodref 7 10), (0, .nameAndType 5 11), (0, u "(DJ)V"), (0, .methodref 7 13), (0, .nameAndType 14 15), (0, u "expand"), (0, u "(J)Z"), (0, .methodref 17 18), (0, .class_ 19), (0, .nameAndType 20 21), (0, u "com/example/guarded_expansion/guardedexpansion/AmplificationExpandPinLaw"), (0, u "ref"), (0, u "(JJ)Z"), (3, u "law"), (0, u "(JJJJI)Z")] 2

def k1m0 : Method := { name := "<init>", desc := "()V", sig := { parameters := [], returnType := none }, accessFlags := 2, code := none }
def k1c1 : Code := { maxStack := 4, maxLocals := 4, code := method_2_code, exceptionTable := #[], attributes := #[] }
def k1m1 : Method := { name := "ref", desc := "(JJ)Z", sig := { parameters := [.long, .long], returnType := some .boolean }, accessFlags := 10, code := some k1c1 }
def k1c2 : Code := { maxStack := 6, maxLocals := 21, code := code, exceptionTable := #[], attributes := #[] }
def k1m2 : Method := { name := "law", desc := "(JJJJI)Z", sig := { parameters := [.long, .long, .long, .long, .int], returnType := some .boolean }, accessFlags := 9, code := some k1c2 }
/-- com/example/guarded_expansion/guardedexpansion/AmplificationExpandPinLaw -/
def k1 : Class := { plain "com/example/guarded_expansion/guardedexpansion/AmplificationExpandPinLaw" (some 0) with
  accessFlags := 49
  interfaces := #[]
  cf := some (fileOf pool1 17 #[] #[{ accessFlags := 2, nameIndex := 5, descriptorIndex := 6, attributes := #[] }, { accessFlags := 10, nameIndex := 20, descriptorIndex := 21, attributes := #[] }, { accessFlags := 9, nameIndex := 25, descriptorIndex := 26, attributes := #[] }] 49 2 #[] #[])
  fields := #[]
  methods := #[k1m0, k1m1, k1m2]
  instanceTypes := #[]
  staticTypes := #[]
  resolved := Array.replicate 29 none
  statics := none }

def pool2 : Array CpInfo := pool [(1, .methodref 2 3), (0, .class_ 4), (0, .nameAndType 5 6), (0, u "java/lang/Object"), (0, u "<init>"), (0, u "()V"), (0, .fieldref 8 9), (0, .class_ 10), (0, .nameAndType 11 12), (0, u "com/example/guarded_expansion/guardedexpansion/Amplification"), (0, u "limit"), (0, u "D"), (0, .fieldref 8 14), (0, .nameAndType 15 16), (0, u "threshold"), (0, u "J"), (2, u "files"), (0, u "Ljava/util/Set;"), (9, .class_ 31), (0, u "com/example/guarded_expansion/guardedexpansion/Amplification$CountedStream"), (0, .class_ 33), (0, u "com/example/guarded_expansion/guardedexpansion/Amplification$Text"), (6, .class_ 41), (0, u "com/example/guarded_expansion/guardedexpansion/Amplification$CountedReader"), (3, .fieldref 8 46), (0, .nameAndType 47 16), (0, u "characters"), (0, .fieldref 8 49), (0, .nameAndType 50 16), (0, u "bytes"), (29, u "givenTexts"), (1, u "(DJ)V"), (8, u "expand"), (0, u "(J)Z"), (4, .class_ 98), (0, u "com/example/guarded_expansion/guardedexpansion/Amplification$Fingerprint")] 5

def k2c0 : Code := { maxStack := 3, maxLocals := 5, code := prog_1_method_1_code, exceptionTable := #[], attributes := #[] }
def k2m0 : Method := { name := "<init>", desc := "(DJ)V", sig := { parameters := [.double, .long], returnType := none }, accessFlags := 0, code := some k2c0 }
def k2c1 : Code := { maxStack := 6, maxLocals := 3, code := prog_1_method_5_code, exceptionTable := #[], attributes := #[] }
def k2m1 : Method := { name := "expand", desc := "(J)Z", sig := { parameters := [.long], returnType := some .boolean }, accessFlags := 0, code := some k2c1 }
/-- com/example/guarded_expansion/guardedexpansion/Amplification -/
def k2 : Class := { plain "com/example/guarded_expansion/guardedexpansion/Amplification" (some 0) with
  accessFlags := 32
  interfaces := #[]
  cf := some (fileOf pool2 8 #[.nestMembers #[40, 30, 97, 32]] #[{ accessFlags := 0, nameIndex := 5, descriptorIndex := 82, attributes := #[] }, { accessFlags := 0, nameIndex := 91, descriptorIndex := 92, attributes := #[] }] 32 2 #[] #[{ accessFlags := 18, nameIndex := 11, descriptorIndex := 12, attributes := #[] }, { accessFlags := 18, nameIndex := 15, descriptorIndex := 16, attributes := #[] }, { accessFlags := 2, nameIndex := 47, descriptorIndex := 16, attributes := #[] }, { accessFlags := 2, nameIndex := 50, descriptorIndex := 16, attributes := #[] }, { accessFlags := 2, nameIndex := 19, descriptorIndex := 20, attributes := #[] }, { accessFlags := 2, nameIndex := 80, descriptorIndex := 20, attributes := #[] }])
  fields := #[{ name := "limit", type := .double, accessFlags := 18, slot := 0, constantValue := 0 }, { name := "threshold", type := .long, accessFlags := 18, slot := 1, constantValue := 0 }, { name := "characters", type := .long, accessFlags := 2, slot := 2, constantValue := 0 }, { name := "bytes", type := .long, accessFlags := 2, slot := 3, constantValue := 0 }, { name := "files", type := (.object "java/util/Set"), accessFlags := 2, slot := 4, constantValue := 0 }, { name := "givenTexts", type := (.object "java/util/Set"), accessFlags := 2, slot := 5, constantValue := 0 }]
  methods := #[k2m0, k2m1]
  instanceTypes := #[.double, .long, .long, .long, (.object "java/util/Set"), (.object "java/util/Set")]
  staticTypes := #[]
  resolved := Array.replicate 104 none
  statics := none }

def pool3 : Array CpInfo := pool [(1, u "java/lang/Cloneable"), (0, .class_ 1), (0, u "java/lang/Object"), (0, .class_ 3)] 3

/-- java/lang/Cloneable -/
def k3 : Class := { plain "java/lang/Cloneable" (some 0) with
  accessFlags := 1537
  interfaces := #[]
  cf := some (fileOf pool3 2 #[] #[] 1537 4 #[] #[])
  fields := #[]
  methods := #[]
  instanceTypes := #[]
  staticTypes := #[]
  resolved := Array.replicate 8 none
  statics := none }

def pool4 : Array CpInfo := pool [(1, u "java/io/Serializable"), (0, .class_ 1), (0, u "java/lang/Object"), (0, .class_ 3)] 3

/-- java/io/Serializable -/
def k4 : Class := { plain "java/io/Serializable" (some 0) with
  accessFlags := 1537
  interfaces := #[]
  cf := some (fileOf pool4 2 #[] #[] 1537 4 #[] #[])
  fields := #[]
  methods := #[]
  instanceTypes := #[]
  staticTypes := #[]
  resolved := Array.replicate 8 none
  statics := none }

/-- the primitive byte -/
def k5 : Class := { plain "byte" none with kind := .primitive 'B', accessFlags := 0x411 }
/-- [B -/
def k6 : Class := { plain "[B" (some 0) with kind := .array 5 .byte, interfaces := #[3, 4], accessFlags := 1041 }

/-- the primitive int -/
def k7 : Class := { plain "int" none with kind := .primitive 'I', accessFlags := 0x411 }
/-- [I -/
def k8 : Class := { plain "[I" (some 0) with kind := .array 7 .int, interfaces := #[3, 4], accessFlags := 1041 }

def heap : Heap := #[]
def classes : Array Class := #[k0, k1, k2, k3, k4, k5, k6, k7, k8]
def interned : List (Array UInt16 × Addr) := []
def slotsUsed : Nat := 0
def theMethod : MethodId := ⟨1, 2⟩
def args0 : Array Value := #[.long 5, .long 7, .long 9, .long 11, .int 3]
def aboutOver (below : List Frame) : State where
  vm := { classes := classes, interned := interned.toArray }
  heap := heap
  slotsUsed := slotsUsed
  threads := #[{ frames := .invoking theMethod args0 :: below }]
def below0 : List Frame := [.native { method := ⟨0, 0⟩, args := #[] }]
def about1 : State := aboutOver below0
def p0 : Program := .bare "" "" ""
def e0 : Env := launch0.env 0 0 0
theorem w_frames : about1.frames = Frame.invoking theMethod args0 :: below0 := rfl
set_option maxRecDepth 65536 in
theorem w_args : argsFit about1.vm theMethod args0 = true := by decide +kernel
set_option maxRecDepth 65536 in
theorem w_heap : heapFits about1 = true := by decide +kernel
set_option maxRecDepth 65536 in
theorem w_runnable : about1.curStatus? = some .runnable := by decide +kernel
set_option maxRecDepth 65536 in
theorem w_alone : about1.alone = true := by decide +kernel
set_option maxRecDepth 65536 in
theorem w_named : about1.methodNamed? x = some theMethod := by decide +kernel
set_option maxRecDepth 65536 in
theorem w_hears : about1.hears theMethod below0 = true := by decide +kernel
set_option maxRecDepth 65536 in
theorem w_ripe : about1.ripe theMethod args0 below0 = true := by decide +kernel
theorem w_running : about1.status = .running := rfl
set_option maxRecDepth 65536 in
theorem w_room : about1.hasRoom e0.platform room_1 = true :=
  launch0.hasRoom_least _ room_1 (by decide +kernel) (by decide +kernel) (by decide +kernel) (by decide +kernel) (by decide +kernel) (by decide +kernel)
theorem allAtoms_all (ts : List Jvm.Cond) (a : Array Jvm.Value) (st : Jvm.State) : (allAtoms ts).before a st = ts.all (fun c => c.before a st) := by
  induction ts with
  | nil => rfl
  | cons c t ih =>
    show (Jvm.Cond.and c (allAtoms t)).before a st = _
    rw [Jvm.Cond.before_and, ih, List.all_cons]
def words1 : List Jvm.Cond := Jvm.Cond.code x code maxLocals ret :: tables_1
/-- a 'code' word, met by the world's own term for the bytes: nothing is compared byte by byte -/
theorem code_word {y : MethodName} {bytes : ByteArray} {mx : Nat} {rt : Option FieldType} {a : Array Value} {s : State} {m : MethodId} {meth : Method} {c : Code} (h1 : s.methodNamed? y = some m) (h2 : s.vm.method? m = some meth) (h3 : meth.code = some c) (h4 : c.code = bytes)
    (h5 : (c.maxLocals == mx && c.exceptionTable.isEmpty && decide (c.maxStack ≤ mostOperands) && decide (meth.sig.returnType = rt) && !meth.locks && decide (parseMethodDescriptor y.desc = some meth.sig)) = true) : (Jvm.Cond.code y bytes mx rt).before a s = true := by
  simp only [Bool.and_eq_true, beq_iff_eq, Bool.not_eq_true', decide_eq_true_eq] at h5
  obtain ⟨⟨⟨⟨⟨g1, g2⟩, g3⟩, g4⟩, g5⟩, g6⟩ := h5
  simp [Cond.before, Cond.holds, Cond.value, h1, h2, h3, h4, g1, g2, g3, g4, g5, g6]
def isCode : Jvm.Cond → Bool
  | .code _ _ _ _ => true
  | _ => false
theorem all_split {L : List Jvm.Cond} {P : Jvm.Cond → Bool} (h1 : L.all (fun c => isCode c || P c) = true) (h2 : ∀ c ∈ L.filter isCode, P c = true) : L.all P = true := by
  refine List.all_eq_true.mpr fun c hc => ?_
  have h := List.all_eq_true.mp h1 c hc
  rcases Bool.eq_false_or_eq_true (isCode c) with hi | hi
  · exact h2 c (List.mem_filter.mpr ⟨hc, hi⟩)
  · simpa [hi] using h
set_option maxRecDepth 65536 in
theorem w_c0 : (Jvm.Cond.code x code maxLocals ret).before args0 about1 = true := code_word (m := ⟨1, 2⟩) (meth := k1m2) (c := k1c2) (by decide +kernel) rfl rfl rfl (by decide +kernel)
set_option maxRecDepth 65536 in
theorem w_c1 : (Jvm.Cond.code ({ cls := "com/example/guarded_expansion/guardedexpansion/Amplification", name := "<init>", desc := "(DJ)V" } : Jvm.MethodName) prog_1_method_1_code (5 : Nat) (Option.none : Option Jvm.ClassFile.FieldType)).before args0 about1 = true := code_word (m := ⟨2, 0⟩) (meth := k2m0) (c := k2c0) (by decide +kernel) rfl rfl rfl (by decide +kernel)
set_option maxRecDepth 65536 in
theorem w_c2 : (Jvm.Cond.code ({ cls := "java/lang/Object", name := "<init>", desc := "()V" } : Jvm.MethodName) object_method_1_code (1 : Nat) (Option.none : Option Jvm.ClassFile.FieldType)).before args0 about1 = true := code_word (m := ⟨0, 0⟩) (meth := k0m0) (c := k0c0) (by decide +kernel) rfl rfl rfl (by decide +kernel)
set_option maxRecDepth 65536 in
theorem w_c3 : (Jvm.Cond.code ({ cls := "com/example/guarded_expansion/guardedexpansion/Amplification", name := "expand", desc := "(J)Z" } : Jvm.MethodName) prog_1_method_5_code (3 : Nat) (Option.some Jvm.ClassFile.FieldType.boolean)).before args0 about1 = true := code_word (m := ⟨2, 1⟩) (meth := k2m1) (c := k2c1) (by decide +kernel) rfl rfl rfl (by decide +kernel)
set_option maxRecDepth 65536 in
theorem w_c4 : (Jvm.Cond.code ({ cls := "com/example/guarded_expansion/guardedexpansion/AmplificationExpandPinLaw", name := "ref", desc := "(JJ)Z" } : Jvm.MethodName) method_2_code (4 : Nat) (Option.some Jvm.ClassFile.FieldType.boolean)).before args0 about1 = true := code_word (m := ⟨1, 1⟩) (meth := k1m1) (c := k1c1) (by decide +kernel) rfl rfl rfl (by decide +kernel)
def codes1 : List Jvm.Cond := [Jvm.Cond.code x code maxLocals ret, Jvm.Cond.code ({ cls := "com/example/guarded_expansion/guardedexpansion/Amplification", name := "<init>", desc := "(DJ)V" } : Jvm.MethodName) prog_1_method_1_code (5 : Nat) (Option.none : Option Jvm.ClassFile.FieldType), Jvm.Cond.code ({ cls := "java/lang/Object", name := "<init>", desc := "()V" } : Jvm.MethodName) object_method_1_code (1 : Nat) (Option.none : Option Jvm.ClassFile.FieldType), Jvm.Cond.code ({ cls := "com/example/guarded_expansion/guardedexpansion/Amplification", name := "expand", desc := "(J)Z" } : Jvm.MethodName) prog_1_method_5_code (3 : Nat) (Option.some Jvm.ClassFile.FieldType.boolean), Jvm.Cond.code ({ cls := "com/example/guarded_expansion/guardedexpansion/AmplificationExpandPinLaw", name := "ref", desc := "(JJ)Z" } : Jvm.MethodName) method_2_code (4 : Nat) (Option.some Jvm.ClassFile.FieldType.boolean)]
set_option maxRecDepth 65536 in
theorem codes_eq : words1.filter isCode = codes1 := rfl
theorem w_codes : ∀ c ∈ words1.filter isCode, c.before args0 about1 = true := by
  rw [codes_eq]
  intro c hc
  simp only [codes1, List.mem_cons, List.not_mem_nil, or_false] at hc
  rcases hc with rfl | rfl | rfl | rfl | rfl
  · exact w_c0
  · exact w_c1
  · exact w_c2
  · exact w_c3
  · exact w_c4
set_option maxRecDepth 65536 in
theorem w_t1 : (words1.take 24).all (fun c => isCode c || c.before args0 about1) = true := by decide +kernel
set_option maxRecDepth 65536 in
theorem w_t2 : (words1.drop 24).all (fun c => isCode c || c.before args0 about1) = true := by decide +kernel
theorem w_tables : (allAtoms (Jvm.Cond.code x code maxLocals ret :: tables_1)).before args0 about1 = true := by
  rw [allAtoms_all]
  show words1.all (fun c => c.before args0 about1) = true
  refine all_split ?_ w_codes
  rw [← List.take_append_drop 24 words1, List.all_append, w_t1, w_t2]
  rfl
set_option maxRecDepth 65536 in
theorem w_case : (Jvm.Cond.and given_1 narrow_1).before args0 about1 = true := by decide +kernel
theorem w_applies : (headSpec (Jvm.Cond.code x code maxLocals ret :: tables_1) room_1).applies x e0.platform about1 = true :=
  (Spec.applies_iff w_frames).mpr ⟨w_running, w_runnable, w_alone, w_named, w_hears, w_ripe, w_room, w_tables⟩
theorem atStart : AtStart classFile x code maxLocals ret World_1 tables_1 room_1 Calls_1 rest_1 Pre_1 launch0 p0 e0 about1 theMethod args0 below0 :=
  ⟨lists_1, trivial, launch0.admits_env _ _ _, launch0.least_env, fairChoices_fair.cas, fairChoices_fair.clock, w_frames, w_args, w_heap, w_applies, trivial, trivial, w_case⟩
end start1
theorem witness_1 : WitnessClaimed_1 := ⟨start1.p0, start1.e0, start1.about1, start1.theMethod, start1.args0, start1.below0, start1.atStart⟩
end Jvm.Pilot.@@N@@
