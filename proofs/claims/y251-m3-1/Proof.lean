import JvmDerived
import JvmDerived.Pilot.@@N@@Statement
import JvmDerived.Pilot.@@N@@Code
set_option linter.unusedVariables false
set_option linter.unusedSimpArgs false
namespace Jvm.Pilot.@@N@@
open Jvm Jvm.ClassFile Sem Op Lib Jvm.Free Jvm.Stand Jvm.LawKit Jvm.RoadKit Bundle Jvm.Pilot.@@N@@.Jvm.D
/-! OWN KIT: a walk as a goal that goes forward (OGets), and a list of the fresh objects with what they hold (OView) -/
section OwnKit
variable {p : Program} {l : Launch} {e : Env} {R : Room} {s : State} {m : MethodId} {args : Array Value} {below : List Frame} {meth : Method} {c : Code} {T : State} {locs : List Loc} {cells slots : Nat} {Z : State} {a0 : Array Value} {h h' : Heap} {n0 : Nat}
/-- from U the run comes to an end that P allows -/
def OGets (p : Program) (e : Env) (below : List Frame) (P : State → Outcome → Prop) (U : State) : Prop := ∃ s₂ o, Steps p.tables e below U s₂ ∧ s₂.status = .running ∧ Ended s₂ below o ∧ P s₂ o
def OLeaves (s : State) (Q : Option Value → Heap → List Loc → Prop) (k n : Nat) (t : State) (o : Outcome) : Prop := ∃ v L, o = .returned v ∧ Q v t.heap L ∧ FrameEnd s o t L k n
theorem OGets.step {P : State → Outcome → Prop} {U U' : State} (k : ∀ t, Steps p.tables e below U' t → Steps p.tables e below U t) (g : OGets p e below P U') : OGets p e below P U := by
  obtain ⟨t, o, h1, h2⟩ := g
  exact ⟨t, o, k t h1, h2⟩
theorem OGets.after {P : State → Outcome → Prop} {U U' : State} (k : Steps p.tables e below U U') (g : OGets p e below P U') : OGets p e below P U := by
  obtain ⟨t, o, h1, h2⟩ := g
  exact ⟨t, o, k.trans h1, h2⟩
theorem OGets.enter {P : State → Outcome → Prop} {g g' : JFrame} (q : g = g') (k : OGets p e below P (T.setTop g')) : OGets p e below P (T.setTop g) := q ▸ k
theorem OGets.cut {P : State → Outcome → Prop} {U U' : State} (k : OGets p e below P U') (f : OGets p e below P U' → OGets p e below P U) : OGets p e below P U := f k
theorem OGets.retN (X : Stand p l e R s m args below meth c T locs cells slots) (hx : p.tables.exec = Jvm.exec) (hk : meth.locks = false) {t : FieldType} (hret : meth.sig.returnType = some t) (ht : t = .boolean ∨ t = .byte ∨ t = .char ∨ t = .short) {pc : Nat} {Ls : Array Slot} {z : Int32} {rest : List Value}
    (hd : decode c.code pc = .ok (.ireturn, 1)) {Q : Option Value → Heap → List Loc → Prop} {k n : Nat} (hc : cells ≤ k) (hs : slots ≤ n) (hQ : Q (some (.int (nar t z))) T.heap locs) : OGets p e below (OLeaves s Q k n) (T.setTop (mkF m pc Ls (.int z :: rest))) := by
  obtain ⟨fs, hr, hrun, hended, hW, hsame⟩ := X.leave (v := some (.int (nar t z))) (fun h => by rw [hret] at h; cases h) hk
  exact ⟨_, _, Jvm.RoadKit.retN X hx hret ht hd hr, hrun, hended, _, _, rfl, hQ, ⟨_, rfl⟩, hW, hsame.mono hc hs⟩
theorem OGets.retI (X : Stand p l e R s m args below meth c T locs cells slots) (hx : p.tables.exec = Jvm.exec) (hk : meth.locks = false) (hret : meth.sig.returnType = some .int) {pc : Nat} {Ls : Array Slot} {z : Int32} {rest : List Value}
    (hd : decode c.code pc = .ok (.ireturn, 1)) {Q : Option Value → Heap → List Loc → Prop} {k n : Nat} (hc : cells ≤ k) (hs : slots ≤ n) (hQ : Q (some (.int z)) T.heap locs) : OGets p e below (OLeaves s Q k n) (T.setTop (mkF m pc Ls (.int z :: rest))) := by
  obtain ⟨fs, hr, hrun, hended, hW, hsame⟩ := X.leave (v := some (.int z)) (fun h => by rw [hret] at h; cases h) hk
  exact ⟨_, _, Jvm.RoadKit.retOut X hx hret rfl (Or.inl ⟨rfl, Or.inl rfl, _, rfl⟩) hd hr, hrun, hended, _, _, rfl, hQ, ⟨_, rfl⟩, hW, hsame.mono hc hs⟩
theorem OGets.retJ (X : Stand p l e R s m args below meth c T locs cells slots) (hx : p.tables.exec = Jvm.exec) (hk : meth.locks = false) (hret : meth.sig.returnType = some .long) {pc : Nat} {Ls : Array Slot} {z : Int64} {rest : List Value}
    (hd : decode c.code pc = .ok (.lreturn, 1)) {Q : Option Value → Heap → List Loc → Prop} {k n : Nat} (hc : cells ≤ k) (hs : slots ≤ n) (hQ : Q (some (.long z)) T.heap locs) : OGets p e below (OLeaves s Q k n) (T.setTop (mkF m pc Ls (.long z :: rest))) := by
  obtain ⟨fs, hr, hrun, hended, hW, hsame⟩ := X.leave (v := some (.long z)) (fun h => by rw [hret] at h; cases h) hk
  exact ⟨_, _, Jvm.RoadKit.retOut X hx hret rfl (Or.inr (Or.inl ⟨rfl, rfl, _, rfl⟩)) hd hr, hrun, hended, _, _, rfl, hQ, ⟨_, rfl⟩, hW, hsame.mono hc hs⟩
theorem OGets.retA (X : Stand p l e R s m args below meth c T locs cells slots) (hx : p.tables.exec = Jvm.exec) (hk : meth.locks = false) {t : FieldType} (hret : meth.sig.returnType = some t) (ht : t.isReference = true) {pc : Nat} {Ls : Array Slot} {w : Value} {rest : List Value} (hw : w.isRef = true) (hn : narrow t w = w)
    (hd : decode c.code pc = .ok (.areturn, 1)) {Q : Option Value → Heap → List Loc → Prop} {k n : Nat} (hc : cells ≤ k) (hs : slots ≤ n) (hQ : Q (some w) T.heap locs) : OGets p e below (OLeaves s Q k n) (T.setTop (mkF m pc Ls (w :: rest))) := by
  obtain ⟨fs, hr, hrun, hended, hW, hsame⟩ := X.leave (v := some w) (fun h => by rw [hret] at h; cases h) hk
  exact ⟨_, _, Jvm.RoadKit.retOut X hx hret hn (Or.inr (Or.inr (Or.inr (Or.inr ⟨rfl, ht, hw⟩)))) hd hr, hrun, hended, _, _, rfl, hQ, ⟨_, rfl⟩, hW, hsame.mono hc hs⟩
theorem OGets.retV (X : Stand p l e R s m args below meth c T locs cells slots) (hx : p.tables.exec = Jvm.exec) (hk : meth.locks = false) (hret : meth.sig.returnType = none) {pc : Nat} {Ls : Array Slot}
    (hd : decode c.code pc = .ok (.return_, 1)) {Q : Option Value → Heap → List Loc → Prop} {k n : Nat} (hc : cells ≤ k) (hs : slots ≤ n) (hQ : Q none T.heap locs) : OGets p e below (OLeaves s Q k n) (T.setTop (mkF m pc Ls [])) := by
  obtain ⟨fs, hr, hrun, hended, hW, hsame⟩ := X.leave (v := none) (fun _ => rfl) hk
  exact ⟨_, _, X.returnOut hx hret hd hr, hrun, hended, _, _, rfl, hQ, ⟨_, rfl⟩, hW, hsame.mono hc hs⟩
/-- an object (class, fields, their values) or an array (what it is of, its components) -/
abbrev OObj : Type := Sum (String × List (String × String × String) × List Value) (FieldType × List Value)
def OHold (Z : State) (h : Heap) (a : Addr) (o : OObj) : Prop :=
  (∀ q, o = Sum.inl q → Exa Z h a q.1 ∧ q.2.1.Pairwise (fun x y => Jvm.RoadKit.slotOf Z x.1 x.2.1 x.2.2 ≠ Jvm.RoadKit.slotOf Z y.1 y.2.1 y.2.2) ∧ ∀ (j : Nat) (k : String × String × String) (v : Value), q.2.1[j]? = some k → q.2.2[j]? = some v → Fld Z h a k.1 k.2.1 k.2.2 v) ∧
  (∀ q, o = Sum.inr q → ∃ cl : Cell, Arr Z h a cl q.1 ∧ cl.slots.toList = q.2)
variable {a b : Addr} {o : OObj} {sl : Nat} {v : Value} {os : List (Addr × OObj)} {C : String} {ns : List (String × String × String)} {vs : List Value} {ty : FieldType}
theorem OHold.other (W : Wr h h' a sl v) (hne : b ≠ a) (H : OHold Z h b o) : OHold Z h' b o := by
  refine ⟨fun q hq => ?_, fun q hq => ?_⟩
  · obtain ⟨h1, h2, h3⟩ := H.1 q hq
    exact ⟨h1.wr W, h2, fun j k w e1 e2 => (h3 j k w e1 e2).other W (Or.inl hne)⟩
  · obtain ⟨cl, h1, h2⟩ := H.2 q hq
    exact ⟨cl, h1.other W hne, h2⟩
theorem OHold.ext (E : Ext h h') (H : OHold Z h b o) : OHold Z h' b o := by
  refine ⟨fun q hq => ?_, fun q hq => ?_⟩
  · obtain ⟨h1, h2, h3⟩ := H.1 q hq
    exact ⟨h1.ext E, h2, fun j k w e1 e2 => (h3 j k w e1 e2).ext E⟩
  · obtain ⟨cl, h1, h2⟩ := H.2 q hq
    exact ⟨cl, h1.ext E, h2⟩
theorem OHold.obj (h1 : Exa Z h a C) (h2 : ns.Pairwise (fun x y => Jvm.RoadKit.slotOf Z x.1 x.2.1 x.2.2 ≠ Jvm.RoadKit.slotOf Z y.1 y.2.1 y.2.2)) (h3 : ∀ (j : Nat) (k : String × String × String) (v : Value), ns[j]? = some k → vs[j]? = some v → Fld Z h a k.1 k.2.1 k.2.2 v) : OHold Z h a (Sum.inl (C, ns, vs)) :=
  ⟨fun q hq => (by cases hq; exact ⟨h1, h2, h3⟩), fun q hq => (by cases hq)⟩
theorem OHold.arr {cl : Cell} (h1 : Arr Z h a cl ty) (h2 : cl.slots.toList = vs) : OHold Z h a (Sum.inr (ty, vs)) :=
  ⟨fun q hq => (by cases hq), fun q hq => (by cases hq; exact ⟨cl, h1, h2⟩)⟩
theorem OHold.putF (H : OHold Z h a (Sum.inl (C, ns, vs))) {j : Nat} {k : String × String × String} (hj : ns[j]? = some k) (W : Wr h h' a (Jvm.RoadKit.slotOf Z k.1 k.2.1 k.2.2) v) : OHold Z h' a (Sum.inl (C, ns, vs.set j v)) := by
  obtain ⟨h1, h2, h3⟩ := H.1 _ rfl
  refine OHold.obj (h1.wr W) h2 fun i k' w e1 e2 => ?_
  by_cases q : j = i
  · subst q
    rw [hj] at e1; cases e1
    rw [List.getElem?_set] at e2
    split at e2
    · split at e2
      · rename_i hlt
        cases e2
        exact (h3 j k _ hj (List.getElem?_eq_getElem hlt)).same W
      · cases e2
    · exact absurd rfl ‹_›
  · rw [List.getElem?_set_ne q] at e2
    refine (h3 i k' w e1 e2).other W (Or.inr ?_)
    obtain ⟨hi, e1⟩ := List.getElem?_eq_some_iff.mp e1
    obtain ⟨hj', hj⟩ := List.getElem?_eq_some_iff.mp hj
    have P := List.pairwise_iff_getElem.mp h2
    subst e1 hj
    rcases Nat.lt_or_gt_of_ne q with q | q
    · exact (P j i hj' hi q).symm
    · exact P i j hi hj' q
theorem OHold.putA (H : OHold Z h a (Sum.inr (ty, vs))) {j : Nat} (W : Wr h h' a j v) : OHold Z h' a (Sum.inr (ty, vs.set j v)) := by
  obtain ⟨cl, h1, h2⟩ := H.2 _ rfl
  exact OHold.arr (h1.same W) (by show (cl.slots.setIfInBounds j v).toList = vs.set j v; rw [Array.toList_setIfInBounds]; exact congrArg (fun z => z.set j v) h2)
/-- the objects made since the law began, as a list: no two at one place, none old, each as said -/
def OView (Z : State) (n0 : Nat) (h : Heap) (os : List (Addr × OObj)) : Prop := (os.map (·.1)).Nodup ∧ ∀ q ∈ os, n0 ≤ q.1 ∧ q.1 < h.size ∧ OHold Z h q.1 q.2
theorem OView.nil (Z : State) (n0 : Nat) (h : Heap) : OView Z n0 h [] := ⟨List.nodup_nil, fun q hq => by cases hq⟩
theorem OView.perm {os' : List (Addr × OObj)} (V : OView Z n0 h os) (P : os.Perm os') : OView Z n0 h os' := ⟨(P.map _).nodup_iff.mp V.1, fun q hq => V.2 q (P.mem_iff.mpr hq)⟩
theorem own_bring {α : Type} : ∀ (os : List α) (i : Nat) (q : α), os[i]? = some q → os.Perm (q :: os.eraseIdx i)
  | [], i, q, hq => by cases hq
  | x :: t, 0, q, hq => by cases hq; exact List.Perm.refl _
  | x :: t, i + 1, q, hq => (List.Perm.cons x (own_bring t i q hq)).trans (List.Perm.swap q x _)
theorem own_set {α : Type} : ∀ (os : List α) (i : Nat) (q r : α), os[i]? = some q → (r :: os.eraseIdx i).Perm (os.set i r)
  | [], i, q, r, hq => by cases hq
  | x :: t, 0, q, r, hq => List.Perm.refl _
  | x :: t, i + 1, q, r, hq => (List.Perm.swap x r _).trans (List.Perm.cons x (own_set t i q r hq))
theorem OView.bring (V : OView Z n0 h os) (i : Nat) {q : Addr × OObj} (hq : os[i]? = some q) : OView Z n0 h (q :: os.eraseIdx i) := V.perm (own_bring os i q hq)
theorem OView.at (V : OView Z n0 h os) (i : Nat) {q : Addr × OObj} (hq : os[i]? = some q) : n0 ≤ q.1 ∧ q.1 < h.size ∧ OHold Z h q.1 q.2 := V.2 q (List.mem_of_getElem? hq)
theorem OView.old (V : OView Z n0 h os) (i : Nat) {a : Addr} {o : OObj} (hq : os[i]? = some (a, o)) : n0 ≤ a := (V.at i hq).1
theorem OView.big (V : OView Z n0 h os) (i : Nat) {q : Addr × OObj} (hq : os[i]? = some q) : n0 ≤ h.size := Nat.le_trans (V.at i hq).1 (Nat.le_of_lt (V.at i hq).2.1)
theorem OView.exa (V : OView Z n0 h os) (i : Nat) {a : Addr} (hq : os[i]? = some (a, Sum.inl (C, ns, vs))) : Exa Z h a C := ((V.at i hq).2.2.1 _ rfl).1
theorem OView.fld (V : OView Z n0 h os) (i : Nat) {a : Addr} (hq : os[i]? = some (a, Sum.inl (C, ns, vs))) (j : Nat) {O n d : String} (hj : ns[j]? = some (O, n, d)) (hv : vs[j]? = some v) : Fld Z h a O n d v := ((V.at i hq).2.2.1 _ rfl).2.2 j _ v hj hv
theorem OView.arr (V : OView Z n0 h os) (i : Nat) {a : Addr} (hq : os[i]? = some (a, Sum.inr (ty, vs))) : ∃ cl : Cell, Arr Z h a cl ty ∧ cl.slots.toList = vs := (V.at i hq).2.2.2 _ rfl
theorem OView.up (V : OView Z n0 h os) (W : Wr h h' a sl v) (i : Nat) {o o' : OObj} (hq : os[i]? = some (a, o)) (H : OHold Z h' a o') : OView Z n0 h' (os.set i (a, o')) := by
  have V1 := V.bring i hq
  have V2 : OView Z n0 h' ((a, o') :: os.eraseIdx i) := by
    refine ⟨V1.1, fun q hq' => ?_⟩
    rcases List.mem_cons.mp hq' with rfl | hq'
    · exact ⟨(V.at i hq).1, by rw [W.size]; exact (V.at i hq).2.1, H⟩
    · obtain ⟨h1, h2, h3⟩ := V1.2 q (List.mem_cons_of_mem _ hq')
      refine ⟨h1, by rw [W.size]; exact h2, h3.other W fun e => ?_⟩
      have := (List.nodup_cons.mp V1.1).1
      exact this (List.mem_map.mpr ⟨q, hq', e⟩)
  exact V2.perm (own_set os i _ _ hq)
theorem OView.putF (V : OView Z n0 h os) (i : Nat) (hq : os[i]? = some (a, Sum.inl (C, ns, vs))) (j : Nat) {O n d : String} (hj : ns[j]? = some (O, n, d)) (W : Wr h h' a (Jvm.RoadKit.slotOf Z O n d) v) : OView Z n0 h' (os.set i (a, Sum.inl (C, ns, vs.set j v))) := V.up W i hq ((V.at i hq).2.2.putF hj W)
theorem OView.putA (V : OView Z n0 h os) (i : Nat) (hq : os[i]? = some (a, Sum.inr (ty, vs))) {j : Nat} (W : Wr h h' a j v) : OView Z n0 h' (os.set i (a, Sum.inr (ty, vs.set j v))) := V.up W i hq ((V.at i hq).2.2.putA W)
theorem OView.ext (V : OView Z n0 h os) (E : Ext h h') : OView Z n0 h' os := ⟨V.1, fun q hq => ⟨(V.2 q hq).1, Nat.lt_of_lt_of_le (V.2 q hq).2.1 E.1, (V.2 q hq).2.2.ext E⟩⟩
theorem OView.cons (V : OView Z n0 h os) (hn : n0 ≤ h.size) (E : Ext h h') (hlt : h.size < h'.size) (H : OHold Z h' h.size o) : OView Z n0 h' ((h.size, o) :: os) := by
  refine ⟨List.nodup_cons.mpr ⟨fun hm => ?_, V.1⟩, fun q hq => ?_⟩
  · obtain ⟨q, h1, h2⟩ := List.mem_map.mp hm
    exact Nat.lt_irrefl _ (h2 ▸ (V.2 q h1).2.1)
  · rcases List.mem_cons.mp hq with rfl | hq
    · exact ⟨hn, hlt, H⟩
    · exact (V.ext E).2 q hq
theorem own_pair (hL : ∀ x ∈ ns, Laid Z a0 C x.1 x.2.1 x.2.2) (hd : ∀ x ∈ ns, (parseFieldDescriptor x.2.2).isSome = true) (hn : ns.Pairwise (fun x y => x.2.1 ≠ y.2.1)) : ns.Pairwise (fun x y => Jvm.RoadKit.slotOf Z x.1 x.2.1 x.2.2 ≠ Jvm.RoadKit.slotOf Z y.1 y.2.1 y.2.2) :=
  hn.imp_of_mem fun {x y} hx hy hne => by
    obtain ⟨t, ht⟩ := Option.isSome_iff_exists.mp (hd x hx)
    obtain ⟨t', ht'⟩ := Option.isSome_iff_exists.mp (hd y hy)
    exact slot_ne (hL x hx) (hL y hy) hne ht ht'
/-- a fresh object, as 'new' leaves it -/
theorem OView.newObj (V : OView Z n0 h os) (hn : n0 ≤ h.size) (E : Ext h h') (A : Exa Z h' h.size C) (D : ∀ {O nm d : String} {ty : FieldType}, Laid Z a0 C O nm d → parseFieldDescriptor d = some ty → Fld Z h' h.size O nm d (defaultValue ty))
    (hL : ∀ x ∈ ns, Laid Z a0 C x.1 x.2.1 x.2.2) (hd : ns.map (fun x => (parseFieldDescriptor x.2.2).map defaultValue) = vs.map some) (hnm : ns.Pairwise (fun x y => x.2.1 ≠ y.2.1)) : OView Z n0 h' ((h.size, Sum.inl (C, ns, vs)) :: os) := by
  have hs : ∀ x ∈ ns, (parseFieldDescriptor x.2.2).isSome = true := fun x hx => by
    have h1 : (parseFieldDescriptor x.2.2).map defaultValue ∈ vs.map some := hd ▸ List.mem_map.mpr ⟨x, hx, rfl⟩
    obtain ⟨w, -, h2⟩ := List.mem_map.mp h1
    cases hp : parseFieldDescriptor x.2.2 with
    | none => rw [hp] at h2; cases h2
    | some t => rfl
  refine V.cons hn E A.lt (OHold.obj A (own_pair hL hs hnm) fun j k w e1 e2 => ?_)
  have h1 : (ns.map (fun x => (parseFieldDescriptor x.2.2).map defaultValue))[j]? = some ((parseFieldDescriptor k.2.2).map defaultValue) := by rw [List.getElem?_map, e1]; rfl
  have h2 : (vs.map some)[j]? = some (some w) := by rw [List.getElem?_map, e2]; rfl
  rw [hd, h2] at h1
  have h3 := Option.some.inj h1
  cases hp : parseFieldDescriptor k.2.2 with
  | none => rw [hp] at h3; cases h3
  | some t =>
    rw [hp] at h3
    cases Option.some.inj h3
    exact D (hL k (List.mem_of_getElem? e1)) hp
/-- a fresh array -/
theorem OView.newArr (V : OView Z n0 h os) (hn : n0 ≤ h.size) (E : Ext h h') {cA : ClassId} {z : Int32} (A : Arr Z h' h.size (newA cA ty z) ty) (k : Nat) (hk : z.toNatClampNeg = k) : OView Z n0 h' ((h.size, Sum.inr (ty, List.replicate k (defaultValue ty))) :: os) := by
  refine V.cons hn E A.lt (OHold.arr A ?_)
  rw [← hk]; simp [newA]
theorem own_inb {cl : Cell} {vs : List Value} (hs : cl.slots.toList = vs) {j : Int32} (k : Nat) (hj : j.toInt = (k : Int)) (hk : k < vs.length) : ¬ (j < 0 ∨ cl.slots.size ≤ j.toNatClampNeg) := by
  have h1 : cl.slots.size = vs.length := by rw [← hs]; simp
  have e0 : (0 : Int32).toInt = 0 := rfl
  rw [h1]
  simp only [Int32.lt_iff_toInt_lt, Int32.toNatClampNeg, hj, e0]
  omega
theorem own_clamp {j : Int32} (k : Nat) (hj : j.toInt = (k : Int)) : j.toNatClampNeg = k := by simp only [Int32.toNatClampNeg, hj]; omega
theorem own_get {cl : Cell} {vs : List Value} (hs : cl.slots.toList = vs) {j : Int32} (k : Nat) (hj : j.toInt = (k : Int)) {v : Value} (hv : vs[k]? = some v) : cl.slots[j.toNatClampNeg]? = some v := by
  rw [own_clamp k hj, ← Array.getElem?_toList, hs]; exact hv
theorem own_wr {vs : List Value} {j : Int32} (k : Nat) (hj : j.toInt = (k : Int)) (W : Wr h h' a j.toNatClampNeg v) : Wr h h' a k v := by rw [own_clamp k hj] at W; exact W
theorem own_len {cl : Cell} {vs : List Value} (hs : cl.slots.toList = vs) : cl.slots.size = vs.length := by rw [← hs]; simp
end OwnKit
def ns_AssignmentSearch_Tries : List (String × String × String) := [("com/example/inya/inya/AssignmentSearch$Tries", "left", "J"), ("com/example/inya/inya/AssignmentSearch$Tries", "ranOut", "Z")]
theorem lay_ns_AssignmentSearch_Tries {Z : State} {a0 : Array Value} (hw : ∀ d ∈ tables_1, d.before a0 Z = true) : ∀ x ∈ ns_AssignmentSearch_Tries, Laid Z a0 "com/example/inya/inya/AssignmentSearch$Tries" x.1 x.2.1 x.2.2 := by
  intro x hx
  simp only [ns_AssignmentSearch_Tries, List.mem_cons, List.not_mem_nil, or_false] at hx
  rcases hx with rfl | rfl
  · exact Or.inl (hw _ (List.mem_of_getElem? (i := 11) rfl))
  · exact Or.inl (hw _ (List.mem_of_getElem? (i := 18) rfl))
theorem pn_0 : plainName "com/example/inya/inya/AssignmentSearch$Tries" = true := by first | (simp [plainName, overriddenIn]; done) | decide +kernel
theorem d4m1_0 : decode prog_4_method_1_code 0 = .ok (.aload_n 0, 1) := by decide +kernel
theorem d4m1_1 : decode prog_4_method_1_code 1 = .ok (.invokespecial 1, 3) := by decide +kernel
theorem d4m1_4 : decode prog_4_method_1_code 4 = .ok (.aload_n 0, 1) := by decide +kernel
theorem d4m1_5 : decode prog_4_method_1_code 5 = .ok (.lload_n 1, 1) := by decide +kernel
theorem d4m1_6 : decode prog_4_method_1_code 6 = .ok (.putfield 7, 3) := by decide +kernel
theorem d4m1_9 : decode prog_4_method_1_code 9 = .ok (.return_, 1) := by decide +kernel
theorem ef_init (m : MethodId) (x0 : Addr) (x1 : Int64) : entryFrame m #[(.ref x0), (.long x1)] 3 = mkF m 0 #[.val (.ref x0), .val (.long x1), .second] [] := by first | (simp [entryFrame, mkF, argsToLocals, Value.category]; done) | rfl
def Q_init (Z : State) (a : Addr) (q : Int64) (h0 : Heap) (n0 : Nat) (F : List (Addr × OObj)) (v : Option Value) (h : Heap) (L : List Loc) : Prop := v = none ∧ Fr n0 L ∧ OView Z n0 h (((a, Sum.inl ("com/example/inya/inya/AssignmentSearch$Tries", ns_AssignmentSearch_Tries, [(.long q), (.int (0 : Int32))])) : Addr × OObj) :: F)
set_option maxRecDepth 65536 in
set_option maxHeartbeats 40000000 in
theorem rm_init (l : Launch) (Z : State) (a0 : Array Value) (hw : ∀ d ∈ tables_1, d.before a0 Z = true) (ws : List Jvm.Cond) (a : Addr) (q : Int64) (h0 : Heap) (n0 : Nat) (F : List (Addr × OObj)) (Z0 : n0 ≤ h0.size) (V0 : OView Z n0 h0 (((a, Sum.inl ("com/example/inya/inya/AssignmentSearch$Tries", ns_AssignmentSearch_Tries, [(.long (0 : Int64)), (.int (0 : Int32))])) : Addr × OObj) :: F)) :
    MetFree l (⟨"com/example/inya/inya/AssignmentSearch$Tries", "<init>", "(J)V"⟩ : MethodName) (head1 (Jvm.Cond.code (⟨"com/example/inya/inya/AssignmentSearch$Tries", "<init>", "(J)V"⟩ : MethodName) prog_4_method_1_code 3 none :: ws) ({ frames := 1, cells := 0, slots := 0, locals := 12 } : Room)) (fun a_ U => a_ = #[(.ref a), (.long q)] ∧ Z.Warmed39 U.vm ∧ U.heap = h0) (fun _ _ _ _ _ => True) (fun _ U o U' => ∃ v L, o = .returned v ∧ Q_init Z a q h0 n0 F v U'.heap L ∧ FrameEnd U o U' L ({ frames := 1, cells := 0, slots := 0, locals := 12 } : Room).cells ({ frames := 1, cells := 0, slots := 0, locals := 12 } : Room).slots) := by
  refine MetFree.of_bodySF (plainFor_of_name pn_0) hisR ?_
  intro p e s m args below meth c s₁ Bd hml0 hP hK
  obtain ⟨rfl, hZ, hh⟩ := hP
  have hx := Bd.exec
  have hby := Bd.bytes
  have hlk : meth.locks = false := Bd.notSynchronized
  have hml : c.maxLocals = 3 := hml0
  have hown : s.vm.findClass "com/example/inya/inya/AssignmentSearch$Tries" = some m.cls := findClass_of_methodNamed Bd.named
  have hnm := (name_of_methodNamed Bd.named Bd.method).1
  have X0 : Stand p l e ({ frames := 1, cells := 0, slots := 0, locals := 12 } : Room) s m #[(.ref a), (.long q)] below meth c s₁ [] 0 0 := Stand.of_body Bd
  have e0 : s₁.heap = h0 := by rw [← hh, Bd.state]; rfl
  have N0 := Fr.nil n0
  show OGets p e below (OLeaves s (Q_init Z a q h0 n0 F ) ({ frames := 1, cells := 0, slots := 0, locals := 12 } : Room).cells ({ frames := 1, cells := 0, slots := 0, locals := 12 } : Room).slots) _
  refine OGets.enter (ef_init m a q) ?_
  show OGets p e below _ (s₁.setTop (mkF m 0 #[.val (.ref a), .val (.long q), .second] []))
  refine OGets.step (fun _ => XS.aloadN X0.here hx rfl (hb hby d4m1_0) rfl rfl) ?_
  show OGets p e below _ (s₁.setTop (mkF m 1 #[.val (.ref a), .val (.long q), .second] [(.ref a)]))
  obtain ⟨T1, X1, e1, st1⟩ := initO X0 hx hZ hown (hw _ (List.mem_of_getElem? (i := 7) rfl)) (hw _ (List.mem_of_getElem? (i := 8) rfl)) (hw _ (List.mem_of_getElem? (i := 9) rfl)) e0 (g := (mkF m 1 #[.val (.ref a), .val (.long q), .second] [(.ref a)])) rfl (by rw [hml]; rfl) rfl (hb hby d4m1_1) (by decide) (W := 0) (by show 2 * 0 + _ ≤ _; exact Nat.le_of_eq rfl) (by decide)
  refine OGets.step st1 ?_
  show OGets p e below _ (T1.setTop (mkF m 4 #[.val (.ref a), .val (.long q), .second] []))
  refine OGets.step (fun _ => XS.aloadN X1.here hx rfl (hb hby d4m1_4) rfl rfl) ?_
  show OGets p e below _ (T1.setTop (mkF m 5 #[.val (.ref a), .val (.long q), .second] [(.ref a)]))
  refine OGets.step (fun _ => XS.lloadN X1.here hx rfl (hb hby d4m1_5) rfl) ?_
  show OGets p e below _ (T1.setTop (mkF m 6 #[.val (.ref a), .val (.long q), .second] [(.long q), (.ref a)]))
  obtain ⟨T2, h2, X2, e2, W2, st2⟩ := putF X1 hx hZ hown (host := "") (Or.inl (hw _ (List.mem_of_getElem? (i := 10) rfl))) Via.refl e1 (V0.fld 0 rfl 0 rfl rfl) (V0.exa 0 rfl) (Or.inl (hw _ (List.mem_of_getElem? (i := 11) rfl))) (hw _ (List.mem_of_getElem? (i := 2) rfl)) (ty := .long) (by decide) rfl rfl (g := (mkF m 6 #[.val (.ref a), .val (.long q), .second] [(.long q), (.ref a)])) rfl rfl (hb hby d4m1_6)
  have V2 : OView Z n0 h2 (((a, Sum.inl ("com/example/inya/inya/AssignmentSearch$Tries", ns_AssignmentSearch_Tries, [(.long q), (.int (0 : Int32))])) : Addr × OObj) :: F) := V0.putF 0 rfl 0 rfl W2
  have N2 := Fr.snoc X2 N0 (V0.old 0 rfl)
  have Z2 : n0 ≤ h2.size := by rw [W2.size]; exact Z0
  refine OGets.step st2 ?_
  show OGets p e below _ (T2.setTop (mkF m 9 #[.val (.ref a), .val (.long q), .second] []))
  refine OGets.retV X2 hx hlk Bd.returns (hb hby d4m1_9) (Nat.le_of_ble_eq_true rfl) (Nat.le_of_ble_eq_true rfl) ?_
  rw [e2]
  exact ⟨rfl, N2, V2⟩
def tl (q : Int64) : Int64 := if q = 0 then q else q - 1
def tr (q : Int64) (r : Int32) : Int32 := if q = 0 then 1 else r
def tk (q : Int64) (r : Int32) : Int32 := if tr q r = 0 then 1 else 0
theorem d4m2_0 : decode prog_4_method_2_code 0 = .ok (.aload_n 0, 1) := by decide +kernel
theorem d4m2_1 : decode prog_4_method_2_code 1 = .ok (.getfield 7, 3) := by decide +kernel
theorem d4m2_4 : decode prog_4_method_2_code 4 = .ok (.lconst 0, 1) := by decide +kernel
theorem d4m2_5 : decode prog_4_method_2_code 5 = .ok (.lcmp, 1) := by decide +kernel
theorem d4m2_6 : decode prog_4_method_2_code 6 = .ok (.ifCond .ne 11, 3) := by decide +kernel
theorem d4m2_9 : decode prog_4_method_2_code 9 = .ok (.aload_n 0, 1) := by decide +kernel
theorem d4m2_10 : decode prog_4_method_2_code 10 = .ok (.iconst 1, 1) := by decide +kernel
theorem d4m2_11 : decode prog_4_method_2_code 11 = .ok (.putfield 13, 3) := by decide +kernel
theorem d4m2_14 : decode prog_4_method_2_code 14 = .ok (.goto 13, 3) := by decide +kernel
theorem d4m2_27 : decode prog_4_method_2_code 27 = .ok (.aload_n 0, 1) := by decide +kernel
theorem d4m2_28 : decode prog_4_method_2_code 28 = .ok (.getfield 13, 3) := by decide +kernel
theorem d4m2_31 : decode prog_4_method_2_code 31 = .ok (.ifCond .ne 7, 3) := by decide +kernel
theorem d4m2_38 : decode prog_4_method_2_code 38 = .ok (.iconst 0, 1) := by decide +kernel
theorem d4m2_39 : decode prog_4_method_2_code 39 = .ok (.ireturn, 1) := by decide +kernel
theorem d4m2_17 : decode prog_4_method_2_code 17 = .ok (.aload_n 0, 1) := by decide +kernel
theorem d4m2_18 : decode prog_4_method_2_code 18 = .ok (.dup, 1) := by decide +kernel
theorem d4m2_19 : decode prog_4_method_2_code 19 = .ok (.getfield 7, 3) := by decide +kernel
theorem d4m2_22 : decode prog_4_method_2_code 22 = .ok (.lconst 1, 1) := by decide +kernel
theorem d4m2_23 : decode prog_4_method_2_code 23 = .ok (.lsub, 1) := by decide +kernel
theorem d4m2_24 : decode prog_4_method_2_code 24 = .ok (.putfield 7, 3) := by decide +kernel
theorem d4m2_34 : decode prog_4_method_2_code 34 = .ok (.iconst 1, 1) := by decide +kernel
theorem d4m2_35 : decode prog_4_method_2_code 35 = .ok (.goto 4, 3) := by decide +kernel
theorem ef_take (m : MethodId) (x0 : Addr) : entryFrame m #[(.ref x0)] 1 = mkF m 0 #[.val (.ref x0)] [] := by first | (simp [entryFrame, mkF, argsToLocals, Value.category]; done) | rfl
def Q_take (Z : State) (a : Addr) (q : Int64) (r : Int32) (h0 : Heap) (n0 : Nat) (F : List (Addr × OObj)) (v : Option Value) (h : Heap) (L : List Loc) : Prop := v = some (.int (tk q r)) ∧ Fr n0 L ∧ OView Z n0 h (((a, Sum.inl ("com/example/inya/inya/AssignmentSearch$Tries", ns_AssignmentSearch_Tries, [(.long (tl q)), (.int (tr q r))])) : Addr × OObj) :: F)
set_option maxRecDepth 65536 in
set_option maxHeartbeats 40000000 in
theorem rm_take (l : Launch) (Z : State) (a0 : Array Value) (hw : ∀ d ∈ tables_1, d.before a0 Z = true) (ws : List Jvm.Cond) (a : Addr) (q : Int64) (r : Int32) (h0 : Heap) (n0 : Nat) (F : List (Addr × OObj)) (Z0 : n0 ≤ h0.size) (V0 : OView Z n0 h0 (((a, Sum.inl ("com/example/inya/inya/AssignmentSearch$Tries", ns_AssignmentSearch_Tries, [(.long q), (.int r)])) : Addr × OObj) :: F)) :
    MetFree l (⟨"com/example/inya/inya/AssignmentSearch$Tries", "take", "()Z"⟩ : MethodName) (head1 (Jvm.Cond.code (⟨"com/example/inya/inya/AssignmentSearch$Tries", "take", "()Z"⟩ : MethodName) prog_4_method_2_code 1 (some .boolean) :: ws) ({ frames := 0, cells := 0, slots := 0, locals := 0 } : Room)) (fun a_ U => a_ = #[(.ref a)] ∧ Z.Warmed39 U.vm ∧ U.heap = h0) (fun _ _ _ _ _ => True) (fun _ U o U' => ∃ v L, o = .returned v ∧ Q_take Z a q r h0 n0 F v U'.heap L ∧ FrameEnd U o U' L ({ frames := 0, cells := 0, slots := 0, locals := 0 } : Room).cells ({ frames := 0, cells := 0, slots := 0, locals := 0 } : Room).slots) := by
  refine MetFree.of_bodySF (plainFor_of_name pn_0) hisR ?_
  intro p e s m args below meth c s₁ Bd hml0 hP hK
  obtain ⟨rfl, hZ, hh⟩ := hP
  have hx := Bd.exec
  have hby := Bd.bytes
  have hlk : meth.locks = false := Bd.notSynchronized
  have hml : c.maxLocals = 1 := hml0
  have hown : s.vm.findClass "com/example/inya/inya/AssignmentSearch$Tries" = some m.cls := findClass_of_methodNamed Bd.named
  have hnm := (name_of_methodNamed Bd.named Bd.method).1
  have X0 : Stand p l e ({ frames := 0, cells := 0, slots := 0, locals := 0 } : Room) s m #[(.ref a)] below meth c s₁ [] 0 0 := Stand.of_body Bd
  have e0 : s₁.heap = h0 := by rw [← hh, Bd.state]; rfl
  have N0 := Fr.nil n0
  show OGets p e below (OLeaves s (Q_take Z a q r h0 n0 F ) ({ frames := 0, cells := 0, slots := 0, locals := 0 } : Room).cells ({ frames := 0, cells := 0, slots := 0, locals := 0 } : Room).slots) _
  refine OGets.enter (ef_take m a) ?_
  show OGets p e below _ (s₁.setTop (mkF m 0 #[.val (.ref a)] []))
  refine OGets.step (fun _ => XS.aloadN X0.here hx rfl (hb hby d4m2_0) rfl rfl) ?_
  show OGets p e below _ (s₁.setTop (mkF m 1 #[.val (.ref a)] [(.ref a)]))
  obtain ⟨T3, X3, e3, st3⟩ := getF X0 hx hZ hown (host := "") (Or.inl (hw _ (List.mem_of_getElem? (i := 10) rfl))) Via.refl e0 (V0.fld 0 rfl 0 rfl rfl) (g := (mkF m 1 #[.val (.ref a)] [(.ref a)])) rfl rfl (hb hby d4m2_1)
  refine OGets.step st3 ?_
  show OGets p e below _ (T3.setTop (mkF m 4 #[.val (.ref a)] [(.long q)]))
  refine OGets.step (fun _ => XS.lconst X3.here hx rfl (hb hby d4m2_4)) ?_
  show OGets p e below _ (T3.setTop (mkF m 5 #[.val (.ref a)] [(.long (0 : Int64)), (.long q)]))
  refine OGets.step (fun _ => XS.lcmp X3.here hx rfl (hb hby d4m2_5) rfl) ?_
  show OGets p e below _ (T3.setTop (mkF m 6 #[.val (.ref a)] [(.int (lcmpW q (0 : Int64)))]))
  by_cases hc6_4 : q = (0 : Int64)
  · refine OGets.step (fun _ => XS.ifNo X3.here hx rfl (hb hby d4m2_6) rfl ((if0 _ _).trans (teq ((lw_eq _ _).mpr hc6_4)).2)) ?_
    show OGets p e below _ (T3.setTop (mkF m 9 #[.val (.ref a)] []))
    refine OGets.step (fun _ => XS.aloadN X3.here hx rfl (hb hby d4m2_9) rfl rfl) ?_
    show OGets p e below _ (T3.setTop (mkF m 10 #[.val (.ref a)] [(.ref a)]))
    refine OGets.step (fun _ => XS.iconst X3.here hx rfl (hb hby d4m2_10)) ?_
    show OGets p e below _ (T3.setTop (mkF m 11 #[.val (.ref a)] [(.int (1 : Int32)), (.ref a)]))
    obtain ⟨T5, h5, X5, e5, W5, st5⟩ := putFN X3 hx hZ hown (hw _ (List.mem_of_getElem? (i := 17) rfl)) Via.refl e3 (V0.fld 0 rfl 1 rfl rfl) (V0.exa 0 rfl) (Or.inl (hw _ (List.mem_of_getElem? (i := 18) rfl))) (hw _ (List.mem_of_getElem? (i := 2) rfl)) (ty := .boolean) (v' := (.int (1 : Int32))) (by decide) rfl (by decide) (g := (mkF m 11 #[.val (.ref a)] [(.int (1 : Int32)), (.ref a)])) rfl rfl (hb hby d4m2_11)
    have V5 : OView Z n0 h5 (((a, Sum.inl ("com/example/inya/inya/AssignmentSearch$Tries", ns_AssignmentSearch_Tries, [(.long q), (.int (1 : Int32))])) : Addr × OObj) :: F) := V0.putF 0 rfl 1 rfl W5
    have N5 := Fr.snoc X5 N0 (V0.old 0 rfl)
    have Z5 : n0 ≤ h5.size := by rw [W5.size]; exact Z0
    refine OGets.step st5 ?_
    show OGets p e below _ (T5.setTop (mkF m 14 #[.val (.ref a)] []))
    refine OGets.step (fun _ => XS.goto X5.here hx rfl (pc0 := 14) (pc' := 27) rfl (hb hby d4m2_14) (by decide) (by decide)) ?_
    show OGets p e below _ (T5.setTop (mkF m 27 #[.val (.ref a)] []))
    refine OGets.step (fun _ => XS.aloadN X5.here hx rfl (hb hby d4m2_27) rfl rfl) ?_
    show OGets p e below _ (T5.setTop (mkF m 28 #[.val (.ref a)] [(.ref a)]))
    obtain ⟨T6, X6, e6, st6⟩ := getF X5 hx hZ hown (host := "") (Or.inl (hw _ (List.mem_of_getElem? (i := 17) rfl))) Via.refl e5 (V5.fld 0 rfl 1 rfl rfl) (g := (mkF m 28 #[.val (.ref a)] [(.ref a)])) rfl rfl (hb hby d4m2_28)
    refine OGets.step st6 ?_
    show OGets p e below _ (T6.setTop (mkF m 31 #[.val (.ref a)] [(.int (1 : Int32))]))
    refine OGets.step (fun _ => XS.ifYes X6.here hx rfl (pc0 := 31) (pc' := 38) rfl (hb hby d4m2_31) rfl ((if0 _ _).trans (feq (by decide : ¬ ((1 : Int32) = (0 : Int32)))).2) (by decide) (by decide)) ?_
    show OGets p e below _ (T6.setTop (mkF m 38 #[.val (.ref a)] []))
    refine OGets.step (fun _ => XS.iconst X6.here hx rfl (hb hby d4m2_38)) ?_
    show OGets p e below _ (T6.setTop (mkF m 39 #[.val (.ref a)] [(.int (0 : Int32))]))
    refine OGets.retN X6 hx hlk (t := .boolean) Bd.returns (by simp) (hb hby d4m2_39) (Nat.le_of_ble_eq_true rfl) (Nat.le_of_ble_eq_true rfl) ?_
    have t1 : tl q = q := if_pos hc6_4
    have t2 : tr q r = (1 : Int32) := if_pos hc6_4
    have t3 : tk q r = (0 : Int32) := by unfold tk; rw [t2]; decide
    rw [e6]
    refine ⟨?_, N5, ?_⟩
    · rw [t3]; rfl
    · rw [t1, t2]; exact V5
  · refine OGets.step (fun _ => XS.ifYes X3.here hx rfl (pc0 := 6) (pc' := 17) rfl (hb hby d4m2_6) rfl ((if0 _ _).trans (feq (fun q => hc6_4 ((lw_eq _ _).mp q))).2) (by decide) (by decide)) ?_
    show OGets p e below _ (T3.setTop (mkF m 17 #[.val (.ref a)] []))
    refine OGets.step (fun _ => XS.aloadN X3.here hx rfl (hb hby d4m2_17) rfl rfl) ?_
    show OGets p e below _ (T3.setTop (mkF m 18 #[.val (.ref a)] [(.ref a)]))
    refine OGets.step (fun _ => XS.dup X3.here hx rfl (hb hby d4m2_18) rfl rfl) ?_
    show OGets p e below _ (T3.setTop (mkF m 19 #[.val (.ref a)] [(.ref a), (.ref a)]))
    obtain ⟨T8, X8, e8, st8⟩ := getF X3 hx hZ hown (host := "") (Or.inl (hw _ (List.mem_of_getElem? (i := 10) rfl))) Via.refl e3 (V0.fld 0 rfl 0 rfl rfl) (g := (mkF m 19 #[.val (.ref a)] [(.ref a), (.ref a)])) rfl rfl (hb hby d4m2_19)
    refine OGets.step st8 ?_
    show OGets p e below _ (T8.setTop (mkF m 22 #[.val (.ref a)] [(.long q), (.ref a)]))
    refine OGets.step (fun _ => XS.lconst X8.here hx rfl (hb hby d4m2_22)) ?_
    show OGets p e below _ (T8.setTop (mkF m 23 #[.val (.ref a)] [(.long (1 : Int64)), (.long q), (.ref a)]))
    refine OGets.step (fun _ => XS.lsub X8.here hx rfl (hb hby d4m2_23) rfl) ?_
    show OGets p e below _ (T8.setTop (mkF m 24 #[.val (.ref a)] [(.long (q - (1 : Int64))), (.ref a)]))
    obtain ⟨T9, h9, X9, e9, W9, st9⟩ := putF X8 hx hZ hown (host := "") (Or.inl (hw _ (List.mem_of_getElem? (i := 10) rfl))) Via.refl e8 (V0.fld 0 rfl 0 rfl rfl) (V0.exa 0 rfl) (Or.inl (hw _ (List.mem_of_getElem? (i := 11) rfl))) (hw _ (List.mem_of_getElem? (i := 2) rfl)) (ty := .long) (by decide) rfl rfl (g := (mkF m 24 #[.val (.ref a)] [(.long (q - (1 : Int64))), (.ref a)])) rfl rfl (hb hby d4m2_24)
    have V9 : OView Z n0 h9 (((a, Sum.inl ("com/example/inya/inya/AssignmentSearch$Tries", ns_AssignmentSearch_Tries, [(.long (q - (1 : Int64))), (.int r)])) : Addr × OObj) :: F) := V0.putF 0 rfl 0 rfl W9
    have N9 := Fr.snoc X9 N0 (V0.old 0 rfl)
    have Z9 : n0 ≤ h9.size := by rw [W9.size]; exact Z0
    refine OGets.step st9 ?_
    show OGets p e below _ (T9.setTop (mkF m 27 #[.val (.ref a)] []))
    refine OGets.step (fun _ => XS.aloadN X9.here hx rfl (hb hby d4m2_27) rfl rfl) ?_
    show OGets p e below _ (T9.setTop (mkF m 28 #[.val (.ref a)] [(.ref a)]))
    obtain ⟨T10, X10, e10, st10⟩ := getF X9 hx hZ hown (host := "") (Or.inl (hw _ (List.mem_of_getElem? (i := 17) rfl))) Via.refl e9 (V9.fld 0 rfl 1 rfl rfl) (g := (mkF m 28 #[.val (.ref a)] [(.ref a)])) rfl rfl (hb hby d4m2_28)
    refine OGets.step st10 ?_
    show OGets p e below _ (T10.setTop (mkF m 31 #[.val (.ref a)] [(.int r)]))
    by_cases hc31_11 : r = (0 : Int32)
    · refine OGets.step (fun _ => XS.ifNo X10.here hx rfl (hb hby d4m2_31) rfl ((if0 _ _).trans (teq hc31_11).2)) ?_
      show OGets p e below _ (T10.setTop (mkF m 34 #[.val (.ref a)] []))
      refine OGets.step (fun _ => XS.iconst X10.here hx rfl (hb hby d4m2_34)) ?_
      show OGets p e below _ (T10.setTop (mkF m 35 #[.val (.ref a)] [(.int (1 : Int32))]))
      refine OGets.step (fun _ => XS.goto X10.here hx rfl (pc0 := 35) (pc' := 39) rfl (hb hby d4m2_35) (by decide) (by decide)) ?_
      show OGets p e below _ (T10.setTop (mkF m 39 #[.val (.ref a)] [(.int (1 : Int32))]))
      refine OGets.retN X10 hx hlk (t := .boolean) Bd.returns (by simp) (hb hby d4m2_39) (Nat.le_of_ble_eq_true rfl) (Nat.le_of_ble_eq_true rfl) ?_
      have t1 : tl q = (q - (1 : Int64)) := if_neg hc6_4
      have t2 : tr q r = r := if_neg hc6_4
      have t3 : tk q r = (1 : Int32) := by unfold tk; rw [t2]; exact if_pos hc31_11
      rw [e10]
      refine ⟨?_, N9, ?_⟩
      · rw [t3]; rfl
      · rw [t1, t2]; exact V9
    · refine OGets.step (fun _ => XS.ifYes X10.here hx rfl (pc0 := 31) (pc' := 38) rfl (hb hby d4m2_31) rfl ((if0 _ _).trans (feq hc31_11).2) (by decide) (by decide)) ?_
      show OGets p e below _ (T10.setTop (mkF m 38 #[.val (.ref a)] []))
      refine OGets.step (fun _ => XS.iconst X10.here hx rfl (hb hby d4m2_38)) ?_
      show OGets p e below _ (T10.setTop (mkF m 39 #[.val (.ref a)] [(.int (0 : Int32))]))
      refine OGets.retN X10 hx hlk (t := .boolean) Bd.returns (by simp) (hb hby d4m2_39) (Nat.le_of_ble_eq_true rfl) (Nat.le_of_ble_eq_true rfl) ?_
      have t1 : tl q = (q - (1 : Int64)) := if_neg hc6_4
      have t2 : tr q r = r := if_neg hc6_4
      have t3 : tk q r = (0 : Int32) := by unfold tk; rw [t2]; exact if_neg hc31_11
      rw [e10]
      refine ⟨?_, N9, ?_⟩
      · rw [t3]; rfl
      · rw [t1, t2]; exact V9
theorem d4m3_0 : decode prog_4_method_3_code 0 = .ok (.aload_n 0, 1) := by decide +kernel
theorem d4m3_1 : decode prog_4_method_3_code 1 = .ok (.getfield 13, 3) := by decide +kernel
theorem d4m3_4 : decode prog_4_method_3_code 4 = .ok (.ireturn, 1) := by decide +kernel
theorem ef_ranOut (m : MethodId) (x0 : Addr) : entryFrame m #[(.ref x0)] 1 = mkF m 0 #[.val (.ref x0)] [] := by first | (simp [entryFrame, mkF, argsToLocals, Value.category]; done) | rfl
def Q_ranOut (Z : State) (a : Addr) (q : Int64) (r : Int32) (h0 : Heap) (n0 : Nat) (F : List (Addr × OObj)) (v : Option Value) (h : Heap) (L : List Loc) : Prop := v = some (.int (nar .boolean r)) ∧ L = [] ∧ h = h0
set_option maxRecDepth 65536 in
set_option maxHeartbeats 40000000 in
theorem rm_ranOut (l : Launch) (Z : State) (a0 : Array Value) (hw : ∀ d ∈ tables_1, d.before a0 Z = true) (ws : List Jvm.Cond) (a : Addr) (q : Int64) (r : Int32) (h0 : Heap) (n0 : Nat) (F : List (Addr × OObj)) (Z0 : n0 ≤ h0.size) (V0 : OView Z n0 h0 (((a, Sum.inl ("com/example/inya/inya/AssignmentSearch$Tries", ns_AssignmentSearch_Tries, [(.long q), (.int r)])) : Addr × OObj) :: F)) :
    MetFree l (⟨"com/example/inya/inya/AssignmentSearch$Tries", "ranOut", "()Z"⟩ : MethodName) (head1 (Jvm.Cond.code (⟨"com/example/inya/inya/AssignmentSearch$Tries", "ranOut", "()Z"⟩ : MethodName) prog_4_method_3_code 1 (some .boolean) :: ws) ({ frames := 0, cells := 0, slots := 0, locals := 0 } : Room)) (fun a_ U => a_ = #[(.ref a)] ∧ Z.Warmed39 U.vm ∧ U.heap = h0) (fun _ _ _ _ _ => True) (fun _ U o U' => ∃ v L, o = .returned v ∧ Q_ranOut Z a q r h0 n0 F v U'.heap L ∧ FrameEnd U o U' L ({ frames := 0, cells := 0, slots := 0, locals := 0 } : Room).cells ({ frames := 0, cells := 0, slots := 0, locals := 0 } : Room).slots) := by
  refine MetFree.of_bodySF (plainFor_of_name pn_0) hisR ?_
  intro p e s m args below meth c s₁ Bd hml0 hP hK
  obtain ⟨rfl, hZ, hh⟩ := hP
  have hx := Bd.exec
  have hby := Bd.bytes
  have hlk : meth.locks = false := Bd.notSynchronized
  have hml : c.maxLocals = 1 := hml0
  have hown : s.vm.findClass "com/example/inya/inya/AssignmentSearch$Tries" = some m.cls := findClass_of_methodNamed Bd.named
  have hnm := (name_of_methodNamed Bd.named Bd.method).1
  have X0 : Stand p l e ({ frames := 0, cells := 0, slots := 0, locals := 0 } : Room) s m #[(.ref a)] below meth c s₁ [] 0 0 := Stand.of_body Bd
  have e0 : s₁.heap = h0 := by rw [← hh, Bd.state]; rfl
  have N0 := Fr.nil n0
  show OGets p e below (OLeaves s (Q_ranOut Z a q r h0 n0 F ) ({ frames := 0, cells := 0, slots := 0, locals := 0 } : Room).cells ({ frames := 0, cells := 0, slots := 0, locals := 0 } : Room).slots) _
  refine OGets.enter (ef_ranOut m a) ?_
  show OGets p e below _ (s₁.setTop (mkF m 0 #[.val (.ref a)] []))
  refine OGets.step (fun _ => XS.aloadN X0.here hx rfl (hb hby d4m3_0) rfl rfl) ?_
  show OGets p e below _ (s₁.setTop (mkF m 1 #[.val (.ref a)] [(.ref a)]))
  obtain ⟨T12, X12, e12, st12⟩ := getF X0 hx hZ hown (host := "") (Or.inl (hw _ (List.mem_of_getElem? (i := 17) rfl))) Via.refl e0 (V0.fld 0 rfl 1 rfl rfl) (g := (mkF m 1 #[.val (.ref a)] [(.ref a)])) rfl rfl (hb hby d4m3_1)
  refine OGets.step st12 ?_
  show OGets p e below _ (T12.setTop (mkF m 4 #[.val (.ref a)] [(.int r)]))
  refine OGets.retN X12 hx hlk (t := .boolean) Bd.returns (by simp) (hb hby d4m3_4) (Nat.le_of_ble_eq_true rfl) (Nat.le_of_ble_eq_true rfl) ?_
  exact ⟨rfl, rfl, e12⟩
theorem own_step (M : Int) (k : Nat) (L : Int64) (r : Int32) (hM : 0 ≤ M) (h1 : M < k ∧ L.toInt = 0 ∧ r = 1 ∨ (k : Int) ≤ M ∧ L.toInt = M - k ∧ r = 0) :
    (M < ((k + 1 : Nat) : Int) ∧ (tl L).toInt = 0 ∧ tr L r = 1 ∨ ((k + 1 : Nat) : Int) ≤ M ∧ (tl L).toInt = M - ((k + 1 : Nat) : Int) ∧ tr L r = 0) ∧ (M < ((k + 1 : Nat) : Int) ∧ tk L r = 0 ∨ ((k + 1 : Nat) : Int) ≤ M ∧ tk L r = 1) := by
  have e0 : (0 : Int64).toInt = 0 := rfl
  have e1 : (1 : Int64).toInt = 1 := rfl
  by_cases h : L = 0
  · have h2 : L.toInt = 0 := by rw [h]; rfl
    have t1 : tl L = L := if_pos h
    have t2 : tr L r = 1 := if_pos h
    have t3 : tk L r = 0 := by unfold tk; rw [t2]; decide
    rw [t1, t2, t3]
    refine ⟨Or.inl ⟨by omega, h2, rfl⟩, Or.inl ⟨by omega, rfl⟩⟩
  · have h2 : L.toInt ≠ 0 := fun q => h (Int64.toInt_inj.mp (q.trans e0.symm))
    have t1 : tl L = L - 1 := if_neg h
    have t2 : tr L r = r := if_neg h
    have hs := c_lsub L 1
    have hr1 := rng64 L
    have hr2 := rng64 (L - 1)
    rw [e1] at hs
    rcases h1 with ⟨-, h3, -⟩ | ⟨h3, h4, rfl⟩
    · exact absurd h3 h2
    · have t3 : tk L 0 = 1 := by unfold tk; rw [t2]; decide
      rw [t1, t2, t3]
      refine ⟨Or.inr ⟨by omega, by omega, rfl⟩, Or.inr ⟨by omega, rfl⟩⟩
theorem own_all (m : Int64) (h : 0 ≤ m.toInt) :
    (m.toInt < 1 ∧ tk m (0 : Int32) = 0 ∨ 1 ≤ m.toInt ∧ tk m (0 : Int32) = 1) ∧ (m.toInt < 2 ∧ tk (tl m) (tr m (0 : Int32)) = 0 ∨ 2 ≤ m.toInt ∧ tk (tl m) (tr m (0 : Int32)) = 1) ∧ (m.toInt < 3 ∧ tk (tl (tl m)) (tr (tl m) (tr m (0 : Int32))) = 0 ∨ 3 ≤ m.toInt ∧ tk (tl (tl m)) (tr (tl m) (tr m (0 : Int32))) = 1) ∧ (m.toInt < 4 ∧ tk (tl (tl (tl m))) (tr (tl (tl m)) (tr (tl m) (tr m (0 : Int32)))) = 0 ∨ 4 ≤ m.toInt ∧ tk (tl (tl (tl m))) (tr (tl (tl m)) (tr (tl m) (tr m (0 : Int32)))) = 1) ∧ (m.toInt < 5 ∧ tk (tl (tl (tl (tl m)))) (tr (tl (tl (tl m))) (tr (tl (tl m)) (tr (tl m) (tr m (0 : Int32))))) = 0 ∨ 5 ≤ m.toInt ∧ tk (tl (tl (tl (tl m)))) (tr (tl (tl (tl m))) (tr (tl (tl m)) (tr (tl m) (tr m (0 : Int32))))) = 1) ∧ (m.toInt < 5 ∧ (tr (tl (tl (tl (tl m)))) (tr (tl (tl (tl m))) (tr (tl (tl m)) (tr (tl m) (tr m (0 : Int32)))))) = 1 ∨ 5 ≤ m.toInt ∧ (tr (tl (tl (tl (tl m)))) (tr (tl (tl (tl m))) (tr (tl (tl m)) (tr (tl m) (tr m (0 : Int32)))))) = 0) := by
  have s0 : m.toInt < ((0 : Nat) : Int) ∧ m.toInt = 0 ∧ (0 : Int32) = 1 ∨ ((0 : Nat) : Int) ≤ m.toInt ∧ m.toInt = m.toInt - ((0 : Nat) : Int) ∧ (0 : Int32) = 0 := Or.inr ⟨by omega, by omega, rfl⟩
  obtain ⟨s1, r1⟩ := own_step m.toInt 0 m (0 : Int32) h s0
  obtain ⟨s2, r2⟩ := own_step m.toInt 1 (tl m) (tr m (0 : Int32)) h s1
  obtain ⟨s3, r3⟩ := own_step m.toInt 2 (tl (tl m)) (tr (tl m) (tr m (0 : Int32))) h s2
  obtain ⟨s4, r4⟩ := own_step m.toInt 3 (tl (tl (tl m))) (tr (tl (tl m)) (tr (tl m) (tr m (0 : Int32)))) h s3
  obtain ⟨s5, r5⟩ := own_step m.toInt 4 (tl (tl (tl (tl m)))) (tr (tl (tl (tl m))) (tr (tl (tl m)) (tr (tl m) (tr m (0 : Int32))))) h s4
  refine ⟨r1, r2, r3, r4, r5, ?_⟩
  rcases s5 with ⟨q1, -, q2⟩ | ⟨q1, -, q2⟩
  · exact Or.inl ⟨q1, q2⟩
  · exact Or.inr ⟨q1, q2⟩
theorem own_most (m : Int64) : 0 ≤ (m &&& (9223372036854775807 : Int64)).toInt := by
  have h1 := c_maskL m 9223372036854775807 63 (by decide) (by decide)
  omega
theorem own_r1t (m : Int64) (h : 0 ≤ m.toInt) (hc : m < (1 : Int64)) : (tk m (0 : Int32)) = (0 : Int32) := by
  have e : (1 : Int64).toInt = 1 := rfl
  rw [Int64.lt_iff_toInt_lt, e] at hc
  rcases (own_all m h).1 with ⟨q1, q2⟩ | ⟨q1, q2⟩
  · exact q2
  · exact absurd q1 (Int.not_le.mpr hc)
theorem own_r1f (m : Int64) (h : 0 ≤ m.toInt) (hc : ¬ m < (1 : Int64)) : (tk m (0 : Int32)) = (1 : Int32) := by
  have e : (1 : Int64).toInt = 1 := rfl
  rw [Int64.lt_iff_toInt_lt, e] at hc
  rcases (own_all m h).1 with ⟨q1, q2⟩ | ⟨q1, q2⟩
  · exact absurd q1 hc
  · exact q2
theorem own_r2t (m : Int64) (h : 0 ≤ m.toInt) (hc : m < (2 : Int64)) : (tk (tl m) (tr m (0 : Int32))) = (0 : Int32) := by
  have e : (2 : Int64).toInt = 2 := rfl
  rw [Int64.lt_iff_toInt_lt, e] at hc
  rcases (own_all m h).2.1 with ⟨q1, q2⟩ | ⟨q1, q2⟩
  · exact q2
  · exact absurd q1 (Int.not_le.mpr hc)
theorem own_r2f (m : Int64) (h : 0 ≤ m.toInt) (hc : ¬ m < (2 : Int64)) : (tk (tl m) (tr m (0 : Int32))) = (1 : Int32) := by
  have e : (2 : Int64).toInt = 2 := rfl
  rw [Int64.lt_iff_toInt_lt, e] at hc
  rcases (own_all m h).2.1 with ⟨q1, q2⟩ | ⟨q1, q2⟩
  · exact absurd q1 hc
  · exact q2
theorem own_r3t (m : Int64) (h : 0 ≤ m.toInt) (hc : m < (3 : Int64)) : (tk (tl (tl m)) (tr (tl m) (tr m (0 : Int32)))) = (0 : Int32) := by
  have e : (3 : Int64).toInt = 3 := rfl
  rw [Int64.lt_iff_toInt_lt, e] at hc
  rcases (own_all m h).2.2.1 with ⟨q1, q2⟩ | ⟨q1, q2⟩
  · exact q2
  · exact absurd q1 (Int.not_le.mpr hc)
theorem own_r3f (m : Int64) (h : 0 ≤ m.toInt) (hc : ¬ m < (3 : Int64)) : (tk (tl (tl m)) (tr (tl m) (tr m (0 : Int32)))) = (1 : Int32) := by
  have e : (3 : Int64).toInt = 3 := rfl
  rw [Int64.lt_iff_toInt_lt, e] at hc
  rcases (own_all m h).2.2.1 with ⟨q1, q2⟩ | ⟨q1, q2⟩
  · exact absurd q1 hc
  · exact q2
theorem own_r4t (m : Int64) (h : 0 ≤ m.toInt) (hc : m < (4 : Int64)) : (tk (tl (tl (tl m))) (tr (tl (tl m)) (tr (tl m) (tr m (0 : Int32))))) = (0 : Int32) := by
  have e : (4 : Int64).toInt = 4 := rfl
  rw [Int64.lt_iff_toInt_lt, e] at hc
  rcases (own_all m h).2.2.2.1 with ⟨q1, q2⟩ | ⟨q1, q2⟩
  · exact q2
  · exact absurd q1 (Int.not_le.mpr hc)
theorem own_r4f (m : Int64) (h : 0 ≤ m.toInt) (hc : ¬ m < (4 : Int64)) : (tk (tl (tl (tl m))) (tr (tl (tl m)) (tr (tl m) (tr m (0 : Int32))))) = (1 : Int32) := by
  have e : (4 : Int64).toInt = 4 := rfl
  rw [Int64.lt_iff_toInt_lt, e] at hc
  rcases (own_all m h).2.2.2.1 with ⟨q1, q2⟩ | ⟨q1, q2⟩
  · exact absurd q1 hc
  · exact q2
theorem own_r5t (m : Int64) (h : 0 ≤ m.toInt) (hc : m < (5 : Int64)) : (tk (tl (tl (tl (tl m)))) (tr (tl (tl (tl m))) (tr (tl (tl m)) (tr (tl m) (tr m (0 : Int32)))))) = (0 : Int32) := by
  have e : (5 : Int64).toInt = 5 := rfl
  rw [Int64.lt_iff_toInt_lt, e] at hc
  rcases (own_all m h).2.2.2.2.1 with ⟨q1, q2⟩ | ⟨q1, q2⟩
  · exact q2
  · exact absurd q1 (Int.not_le.mpr hc)
theorem own_r5f (m : Int64) (h : 0 ≤ m.toInt) (hc : ¬ m < (5 : Int64)) : (tk (tl (tl (tl (tl m)))) (tr (tl (tl (tl m))) (tr (tl (tl m)) (tr (tl m) (tr m (0 : Int32)))))) = (1 : Int32) := by
  have e : (5 : Int64).toInt = 5 := rfl
  rw [Int64.lt_iff_toInt_lt, e] at hc
  rcases (own_all m h).2.2.2.2.1 with ⟨q1, q2⟩ | ⟨q1, q2⟩
  · exact absurd q1 hc
  · exact q2
theorem own_r6t (m : Int64) (h : 0 ≤ m.toInt) (hc : m < (5 : Int64)) : (nar .boolean (tr (tl (tl (tl (tl m)))) (tr (tl (tl (tl m))) (tr (tl (tl m)) (tr (tl m) (tr m (0 : Int32))))))) = (1 : Int32) := by
  have e : (5 : Int64).toInt = 5 := rfl
  rw [Int64.lt_iff_toInt_lt, e] at hc
  rcases (own_all m h).2.2.2.2.2 with ⟨q1, q2⟩ | ⟨q1, q2⟩
  · rw [q2]; decide
  · exact absurd q1 (Int.not_le.mpr hc)
theorem own_r6f (m : Int64) (h : 0 ≤ m.toInt) (hc : ¬ m < (5 : Int64)) : (nar .boolean (tr (tl (tl (tl (tl m)))) (tr (tl (tl (tl m))) (tr (tl (tl m)) (tr (tl m) (tr m (0 : Int32))))))) = (0 : Int32) := by
  have e : (5 : Int64).toInt = 5 := rfl
  rw [Int64.lt_iff_toInt_lt, e] at hc
  rcases (own_all m h).2.2.2.2.2 with ⟨q1, q2⟩ | ⟨q1, q2⟩
  · exact absurd q1 hc
  · rw [q2]; decide
theorem pn_1 : plainName "com/example/inya/inya/TriesTakePinLaw" = true := by first | (simp [plainName, overriddenIn]; done) | decide +kernel
theorem pd_2 : parseMethodDescriptor "(J)V" = some ⟨[.long], none⟩ := by decide +kernel
theorem pd_3 : parseMethodDescriptor "()Z" = some ⟨[], some .boolean⟩ := by decide +kernel
theorem ef_law (m : MethodId) (x0 : Int64) : entryFrame m #[(.long x0)] maxLocals = mkF m 0 #[.val (.long x0), .second, .unset, .unset, .unset, .unset, .unset, .unset, .unset, .unset, .unset] [] := by first | (simp [entryFrame, mkF, argsToLocals, Value.category, maxLocals]; done) | rfl
def Q_law (Z : State) (p0 : Int64) (h0 : Heap) (n0 : Nat) (v : Option Value) (h : Heap) (L : List Loc) : Prop := v = some (.int 1) ∧ Fr n0 L
set_option maxRecDepth 65536 in
set_option maxHeartbeats 40000000 in
theorem rm_law (l : Launch) (Z : State) (a0 : Array Value) (hw : ∀ d ∈ tables_1, d.before a0 Z = true) (ws : List Jvm.Cond) (p0 : Int64) (h0 : Heap) (n0 : Nat) (Z0 : n0 ≤ h0.size) (V0 : OView Z n0 h0 ([])) :
    MetFree l x (head1 (Jvm.Cond.code x code maxLocals ret :: ws) room_1) (fun a_ U => a_ = #[(.long p0)] ∧ Z.Warmed39 U.vm ∧ U.heap = h0) (fun _ _ _ _ _ => True) (fun _ U o U' => ∃ v L, o = .returned v ∧ Q_law Z p0 h0 n0 v U'.heap L ∧ FrameEnd U o U' L 16 128) := by
  refine MetFree.of_bodySF (plainFor_of_name pn_1) hisR ?_
  intro p e s m args below meth c s₁ Bd hml0 hP hK
  obtain ⟨rfl, hZ, hh⟩ := hP
  have hx := Bd.exec
  have hby := Bd.bytes
  have hlk : meth.locks = false := Bd.notSynchronized
  have hml : c.maxLocals = 11 := hml0
  have hown : s.vm.findClass "com/example/inya/inya/TriesTakePinLaw" = some m.cls := findClass_of_methodNamed Bd.named
  have hnm := (name_of_methodNamed Bd.named Bd.method).1
  have X0 : Stand p l e room_1 s m #[(.long p0)] below meth c s₁ [] 0 0 := Stand.of_body Bd
  have e0 : s₁.heap = h0 := by rw [← hh, Bd.state]; rfl
  have N0 := Fr.nil n0
  show OGets p e below (OLeaves s (Q_law Z p0 h0 n0 ) 16 128) _
  refine OGets.enter (ef_law m p0) ?_
  show OGets p e below _ (s₁.setTop (mkF m 0 #[.val (.long p0), .second, .unset, .unset, .unset, .unset, .unset, .unset, .unset, .unset, .unset] []))
  refine OGets.step (fun _ => XS.lloadN X0.here hx rfl (hb hby at_0) rfl) ?_
  show OGets p e below _ (s₁.setTop (mkF m 1 #[.val (.long p0), .second, .unset, .unset, .unset, .unset, .unset, .unset, .unset, .unset, .unset] [(.long p0)]))
  refine OGets.step (fun _ => X0.ldc2Long hx hown (mvT hZ (hw _ (List.mem_of_getElem? (i := 0) rfl))) (g := (mkF m 1 #[.val (.long p0), .second, .unset, .unset, .unset, .unset, .unset, .unset, .unset, .unset, .unset] [(.long p0)])) rfl (hb hby at_1) _) ?_
  show OGets p e below _ (s₁.setTop (mkF m 4 #[.val (.long p0), .second, .unset, .unset, .unset, .unset, .unset, .unset, .unset, .unset, .unset] [(.long (9223372036854775807 : Int64)), (.long p0)]))
  refine OGets.step (fun _ => XS.land X0.here hx rfl (hb hby at_4) rfl) ?_
  have hm0' := own_most p0
  generalize (p0 &&& (9223372036854775807 : Int64)) = mo at hm0' ⊢
  have hm0 := hm0'
  show OGets p e below _ (s₁.setTop (mkF m 5 #[.val (.long p0), .second, .unset, .unset, .unset, .unset, .unset, .unset, .unset, .unset, .unset] [(.long mo)]))
  refine OGets.step (fun _ => XS.lstoreN X0.here hx rfl (hb hby at_5) rfl (l' := #[.val (.long p0), .second, .val (.long mo), .second, .unset, .unset, .unset, .unset, .unset, .unset, .unset]) rfl) ?_
  show OGets p e below _ (s₁.setTop (mkF m 6 #[.val (.long p0), .second, .val (.long mo), .second, .unset, .unset, .unset, .unset, .unset, .unset, .unset] []))
  obtain ⟨T13, h13, X13, e13, E13, A13, D13, -, st13⟩ := newO X0 hx hZ hown (hw _ (List.mem_of_getElem? (i := 1) rfl)) (hw _ (List.mem_of_getElem? (i := 2) rfl)) (hw _ (List.mem_of_getElem? (i := 3) rfl)) e0 (g := (mkF m 6 #[.val (.long p0), .second, .val (.long mo), .second, .unset, .unset, .unset, .unset, .unset, .unset, .unset] [])) rfl (hb hby at_6) (by decide) (by decide)
  have V13' := V0.newObj (ns := ns_AssignmentSearch_Tries) (vs := [(.long (0 : Int64)), (.int (0 : Int32))]) Z0 E13 A13 D13 (lay_ns_AssignmentSearch_Tries hw) (by decide) (by decide)
  have Z13 : n0 ≤ h13.size := Nat.le_trans Z0 E13.1
  obtain ⟨b13, g13⟩ : ∃ z, z = h0.size := ⟨_, rfl⟩
  rw [← g13] at V13' st13
  have V13 : OView Z n0 h13 (((b13, Sum.inl ("com/example/inya/inya/AssignmentSearch$Tries", ns_AssignmentSearch_Tries, [(.long (0 : Int64)), (.int (0 : Int32))])) : Addr × OObj) :: []) := V13'
  refine OGets.step st13 ?_
  show OGets p e below _ (T13.setTop (mkF m 9 #[.val (.long p0), .second, .val (.long mo), .second, .unset, .unset, .unset, .unset, .unset, .unset, .unset] [(.ref b13)]))
  refine OGets.step (fun _ => XS.dup X13.here hx rfl (hb hby at_9) rfl rfl) ?_
  show OGets p e below _ (T13.setTop (mkF m 10 #[.val (.long p0), .second, .val (.long mo), .second, .unset, .unset, .unset, .unset, .unset, .unset, .unset] [(.ref b13), (.ref b13)]))
  refine OGets.step (fun _ => XS.lloadN X13.here hx rfl (hb hby at_10) rfl) ?_
  show OGets p e below _ (T13.setTop (mkF m 11 #[.val (.long p0), .second, .val (.long mo), .second, .unset, .unset, .unset, .unset, .unset, .unset, .unset] [(.long mo), (.ref b13), (.ref b13)]))
  obtain ⟨_, _, ⟨T14, L14, k14, n14⟩, -, X14, ⟨Lc14, hQ14, l14, y14, z14⟩, st14⟩ := X13.specialBack hx (y := (⟨"com/example/inya/inya/AssignmentSearch$Tries", "<init>", "(J)V"⟩ : MethodName)) rfl hown (mvT hZ (hw _ (List.mem_of_getElem? (i := 4) rfl))) (mvT hZ (hw _ (List.mem_of_getElem? (i := 5) rfl))) (mvT hZ (hw _ (List.mem_of_getElem? (i := 6) rfl))) (by decide) (backOf (W := 1) (rm_init l Z a0 hw [] b13 mo h13 n0 ([]) Z13  V13) hZ (hw _ (List.mem_of_getElem? (i := 6) rfl)) (hw _ (List.mem_of_getElem? (i := 3) rfl)) (by decide) (by decide)) (g := (mkF m 11 #[.val (.long p0), .second, .val (.long mo), .second, .unset, .unset, .unset, .unset, .unset, .unset, .unset] [(.long mo), (.ref b13), (.ref b13)])) rfl (by rw [hml]; rfl) (Steps.refl _) (a := b13) (argsL := [(.long mo)]) (rest := [(.ref b13)]) (lenOf pd_2 rfl) rfl (by show 2 * 0 + _ ≤ _; exact Nat.le_of_eq rfl) (hb hby at_11) (fun _ _ => ⟨rfl, e13, Nat.le_of_ble_eq_true rfl, Nat.le_of_ble_eq_true rfl⟩)
  dsimp only [Pt.U, Pt.locs, Pt.cells, Pt.slots] at X14 l14 y14 z14 st14 hQ14
  subst l14 y14 z14
  obtain ⟨rfl, N14q, V14⟩ := hQ14
  have N14 := Fr.app N0 N14q
  have V14v : OView Z n0 T14.heap (((b13, Sum.inl ("com/example/inya/inya/AssignmentSearch$Tries", ns_AssignmentSearch_Tries, [(.long mo), (.int (0 : Int32))])) : Addr × OObj) :: []) := V14
  have Z14 : n0 ≤ T14.heap.size := V14v.big 0 rfl
  refine OGets.after st14 ?_
  show OGets p e below _ (T14.setTop (mkF m 14 #[.val (.long p0), .second, .val (.long mo), .second, .unset, .unset, .unset, .unset, .unset, .unset, .unset] [(.ref b13)]))
  refine OGets.step (fun _ => XS.astore X14.here hx rfl (hb hby at_14) rfl rfl (l' := #[.val (.long p0), .second, .val (.long mo), .second, .val (.ref b13), .unset, .unset, .unset, .unset, .unset, .unset]) rfl) ?_
  show OGets p e below _ (T14.setTop (mkF m 16 #[.val (.long p0), .second, .val (.long mo), .second, .val (.ref b13), .unset, .unset, .unset, .unset, .unset, .unset] []))
  refine OGets.step (fun _ => XS.aload X14.here hx rfl (hb hby at_16) rfl rfl) ?_
  show OGets p e below _ (T14.setTop (mkF m 18 #[.val (.long p0), .second, .val (.long mo), .second, .val (.ref b13), .unset, .unset, .unset, .unset, .unset, .unset] [(.ref b13)]))
  obtain ⟨cq15, kq15, q15a, q15b, q15c⟩ := isOf hZ rfl (V14v.exa 0 rfl)
  obtain ⟨_, _, ⟨T15, L15, k15, n15⟩, -, X15, ⟨Lc15, hQ15, l15, y15, z15⟩, st15⟩ := X14.virtualBack hx (y := (⟨"com/example/inya/inya/AssignmentSearch$Tries", "take", "()Z"⟩ : MethodName)) (z := (⟨"com/example/inya/inya/AssignmentSearch$Tries", "take", "()Z"⟩ : MethodName)) hown (mvT hZ (hw _ (List.mem_of_getElem? (i := 12) rfl))) (mvT hZ (hw _ (List.mem_of_getElem? (i := 13) rfl))) (notFace_of_selects (args := #[]) (mvT hZ (hw _ (List.mem_of_getElem? (i := 15) rfl)))) (mvT hZ (hw _ (List.mem_of_getElem? (i := 15) rfl))) (mvT hZ (hw _ (List.mem_of_getElem? (i := 14) rfl))) (by decide) (backOf (W := 0) (rm_take l Z a0 hw [] b13 mo (0 : Int32) T14.heap n0 ([]) Z14  V14v) hZ (hw _ (List.mem_of_getElem? (i := 16) rfl)) (hw _ (List.mem_of_getElem? (i := 3) rfl)) (by decide) (by decide)) q15a q15c (g := (mkF m 18 #[.val (.long p0), .second, .val (.long mo), .second, .val (.ref b13), .unset, .unset, .unset, .unset, .unset, .unset] [(.ref b13)])) rfl (by rw [hml]; rfl) (Steps.refl _) (argsL := []) (rest := []) (lenOf pd_3 rfl) rfl (by show 2 * 0 + _ ≤ _; exact Nat.le_of_eq rfl) (hb hby at_18) (fun _ _ => ⟨rfl, rfl, Nat.le_of_ble_eq_true rfl, Nat.le_of_ble_eq_true rfl⟩)
  dsimp only [Pt.U, Pt.locs, Pt.cells, Pt.slots] at X15 l15 y15 z15 st15 hQ15
  subst l15 y15 z15
  obtain ⟨rfl, N15q, V15⟩ := hQ15
  have N15 := Fr.app N14 N15q
  have V15v : OView Z n0 T15.heap (((b13, Sum.inl ("com/example/inya/inya/AssignmentSearch$Tries", ns_AssignmentSearch_Tries, [(.long (tl mo)), (.int (tr mo (0 : Int32)))])) : Addr × OObj) :: []) := V15
  have Z15 : n0 ≤ T15.heap.size := V15v.big 0 rfl
  refine OGets.after st15 ?_
  show OGets p e below _ (T15.setTop (mkF m 21 #[.val (.long p0), .second, .val (.long mo), .second, .val (.ref b13), .unset, .unset, .unset, .unset, .unset, .unset] [(.int (tk mo (0 : Int32)))]))
  refine OGets.step (fun _ => XS.istore X15.here hx rfl (hb hby at_21) rfl (l' := #[.val (.long p0), .second, .val (.long mo), .second, .val (.ref b13), .val (.int (tk mo (0 : Int32))), .unset, .unset, .unset, .unset, .unset]) rfl) ?_
  show OGets p e below _ (T15.setTop (mkF m 23 #[.val (.long p0), .second, .val (.long mo), .second, .val (.ref b13), .val (.int (tk mo (0 : Int32))), .unset, .unset, .unset, .unset, .unset] []))
  refine OGets.step (fun _ => XS.aload X15.here hx rfl (hb hby at_23) rfl rfl) ?_
  show OGets p e below _ (T15.setTop (mkF m 25 #[.val (.long p0), .second, .val (.long mo), .second, .val (.ref b13), .val (.int (tk mo (0 : Int32))), .unset, .unset, .unset, .unset, .unset] [(.ref b13)]))
  obtain ⟨cq16, kq16, q16a, q16b, q16c⟩ := isOf hZ rfl (V15v.exa 0 rfl)
  obtain ⟨_, _, ⟨T16, L16, k16, n16⟩, -, X16, ⟨Lc16, hQ16, l16, y16, z16⟩, st16⟩ := X15.virtualBack hx (y := (⟨"com/example/inya/inya/AssignmentSearch$Tries", "take", "()Z"⟩ : MethodName)) (z := (⟨"com/example/inya/inya/AssignmentSearch$Tries", "take", "()Z"⟩ : MethodName)) hown (mvT hZ (hw _ (List.mem_of_getElem? (i := 12) rfl))) (mvT hZ (hw _ (List.mem_of_getElem? (i := 13) rfl))) (notFace_of_selects (args := #[]) (mvT hZ (hw _ (List.mem_of_getElem? (i := 15) rfl)))) (mvT hZ (hw _ (List.mem_of_getElem? (i := 15) rfl))) (mvT hZ (hw _ (List.mem_of_getElem? (i := 14) rfl))) (by decide) (backOf (W := 0) (rm_take l Z a0 hw [] b13 (tl mo) (tr mo (0 : Int32)) T15.heap n0 ([]) Z15  V15v) hZ (hw _ (List.mem_of_getElem? (i := 16) rfl)) (hw _ (List.mem_of_getElem? (i := 3) rfl)) (by decide) (by decide)) q16a q16c (g := (mkF m 25 #[.val (.long p0), .second, .val (.long mo), .second, .val (.ref b13), .val (.int (tk mo (0 : Int32))), .unset, .unset, .unset, .unset, .unset] [(.ref b13)])) rfl (by rw [hml]; rfl) (Steps.refl _) (argsL := []) (rest := []) (lenOf pd_3 rfl) rfl (by show 2 * 0 + _ ≤ _; exact Nat.le_of_eq rfl) (hb hby at_25) (fun _ _ => ⟨rfl, rfl, Nat.le_of_ble_eq_true rfl, Nat.le_of_ble_eq_true rfl⟩)
  dsimp only [Pt.U, Pt.locs, Pt.cells, Pt.slots] at X16 l16 y16 z16 st16 hQ16
  subst l16 y16 z16
  obtain ⟨rfl, N16q, V16⟩ := hQ16
  have N16 := Fr.app N15 N16q
  have V16v : OView Z n0 T16.heap (((b13, Sum.inl ("com/example/inya/inya/AssignmentSearch$Tries", ns_AssignmentSearch_Tries, [(.long (tl (tl mo))), (.int (tr (tl mo) (tr mo (0 : Int32))))])) : Addr × OObj) :: []) := V16
  have Z16 : n0 ≤ T16.heap.size := V16v.big 0 rfl
  refine OGets.after st16 ?_
  show OGets p e below _ (T16.setTop (mkF m 28 #[.val (.long p0), .second, .val (.long mo), .second, .val (.ref b13), .val (.int (tk mo (0 : Int32))), .unset, .unset, .unset, .unset, .unset] [(.int (tk (tl mo) (tr mo (0 : Int32))))]))
  refine OGets.step (fun _ => XS.istore X16.here hx rfl (hb hby at_28) rfl (l' := #[.val (.long p0), .second, .val (.long mo), .second, .val (.ref b13), .val (.int (tk mo (0 : Int32))), .val (.int (tk (tl mo) (tr mo (0 : Int32)))), .unset, .unset, .unset, .unset]) rfl) ?_
  show OGets p e below _ (T16.setTop (mkF m 30 #[.val (.long p0), .second, .val (.long mo), .second, .val (.ref b13), .val (.int (tk mo (0 : Int32))), .val (.int (tk (tl mo) (tr mo (0 : Int32)))), .unset, .unset, .unset, .unset] []))
  refine OGets.step (fun _ => XS.aload X16.here hx rfl (hb hby at_30) rfl rfl) ?_
  show OGets p e below _ (T16.setTop (mkF m 32 #[.val (.long p0), .second, .val (.long mo), .second, .val (.ref b13), .val (.int (tk mo (0 : Int32))), .val (.int (tk (tl mo) (tr mo (0 : Int32)))), .unset, .unset, .unset, .unset] [(.ref b13)]))
  obtain ⟨cq17, kq17, q17a, q17b, q17c⟩ := isOf hZ rfl (V16v.exa 0 rfl)
  obtain ⟨_, _, ⟨T17, L17, k17, n17⟩, -, X17, ⟨Lc17, hQ17, l17, y17, z17⟩, st17⟩ := X16.virtualBack hx (y := (⟨"com/example/inya/inya/AssignmentSearch$Tries", "take", "()Z"⟩ : MethodName)) (z := (⟨"com/example/inya/inya/AssignmentSearch$Tries", "take", "()Z"⟩ : MethodName)) hown (mvT hZ (hw _ (List.mem_of_getElem? (i := 12) rfl))) (mvT hZ (hw _ (List.mem_of_getElem? (i := 13) rfl))) (notFace_of_selects (args := #[]) (mvT hZ (hw _ (List.mem_of_getElem? (i := 15) rfl)))) (mvT hZ (hw _ (List.mem_of_getElem? (i := 15) rfl))) (mvT hZ (hw _ (List.mem_of_getElem? (i := 14) rfl))) (by decide) (backOf (W := 0) (rm_take l Z a0 hw [] b13 (tl (tl mo)) (tr (tl mo) (tr mo (0 : Int32))) T16.heap n0 ([]) Z16  V16v) hZ (hw _ (List.mem_of_getElem? (i := 16) rfl)) (hw _ (List.mem_of_getElem? (i := 3) rfl)) (by decide) (by decide)) q17a q17c (g := (mkF m 32 #[.val (.long p0), .second, .val (.long mo), .second, .val (.ref b13), .val (.int (tk mo (0 : Int32))), .val (.int (tk (tl mo) (tr mo (0 : Int32)))), .unset, .unset, .unset, .unset] [(.ref b13)])) rfl (by rw [hml]; rfl) (Steps.refl _) (argsL := []) (rest := []) (lenOf pd_3 rfl) rfl (by show 2 * 0 + _ ≤ _; exact Nat.le_of_eq rfl) (hb hby at_32) (fun _ _ => ⟨rfl, rfl, Nat.le_of_ble_eq_true rfl, Nat.le_of_ble_eq_true rfl⟩)
  dsimp only [Pt.U, Pt.locs, Pt.cells, Pt.slots] at X17 l17 y17 z17 st17 hQ17
  subst l17 y17 z17
  obtain ⟨rfl, N17q, V17⟩ := hQ17
  have N17 := Fr.app N16 N17q
  have V17v : OView Z n0 T17.heap (((b13, Sum.inl ("com/example/inya/inya/AssignmentSearch$Tries", ns_AssignmentSearch_Tries, [(.long (tl (tl (tl mo)))), (.int (tr (tl (tl mo)) (tr (tl mo) (tr mo (0 : Int32)))))])) : Addr × OObj) :: []) := V17
  have Z17 : n0 ≤ T17.heap.size := V17v.big 0 rfl
  refine OGets.after st17 ?_
  show OGets p e below _ (T17.setTop (mkF m 35 #[.val (.long p0), .second, .val (.long mo), .second, .val (.ref b13), .val (.int (tk mo (0 : Int32))), .val (.int (tk (tl mo) (tr mo (0 : Int32)))), .unset, .unset, .unset, .unset] [(.int (tk (tl (tl mo)) (tr (tl mo) (tr mo (0 : Int32)))))]))
  refine OGets.step (fun _ => XS.istore X17.here hx rfl (hb hby at_35) rfl (l' := #[.val (.long p0), .second, .val (.long mo), .second, .val (.ref b13), .val (.int (tk mo (0 : Int32))), .val (.int (tk (tl mo) (tr mo (0 : Int32)))), .val (.int (tk (tl (tl mo)) (tr (tl mo) (tr mo (0 : Int32))))), .unset, .unset, .unset]) rfl) ?_
  show OGets p e below _ (T17.setTop (mkF m 37 #[.val (.long p0), .second, .val (.long mo), .second, .val (.ref b13), .val (.int (tk mo (0 : Int32))), .val (.int (tk (tl mo) (tr mo (0 : Int32)))), .val (.int (tk (tl (tl mo)) (tr (tl mo) (tr mo (0 : Int32))))), .unset, .unset, .unset] []))
  refine OGets.step (fun _ => XS.aload X17.here hx rfl (hb hby at_37) rfl rfl) ?_
  show OGets p e below _ (T17.setTop (mkF m 39 #[.val (.long p0), .second, .val (.long mo), .second, .val (.ref b13), .val (.int (tk mo (0 : Int32))), .val (.int (tk (tl mo) (tr mo (0 : Int32)))), .val (.int (tk (tl (tl mo)) (tr (tl mo) (tr mo (0 : Int32))))), .unset, .unset, .unset] [(.ref b13)]))
  obtain ⟨cq18, kq18, q18a, q18b, q18c⟩ := isOf hZ rfl (V17v.exa 0 rfl)
  obtain ⟨_, _, ⟨T18, L18, k18, n18⟩, -, X18, ⟨Lc18, hQ18, l18, y18, z18⟩, st18⟩ := X17.virtualBack hx (y := (⟨"com/example/inya/inya/AssignmentSearch$Tries", "take", "()Z"⟩ : MethodName)) (z := (⟨"com/example/inya/inya/AssignmentSearch$Tries", "take", "()Z"⟩ : MethodName)) hown (mvT hZ (hw _ (List.mem_of_getElem? (i := 12) rfl))) (mvT hZ (hw _ (List.mem_of_getElem? (i := 13) rfl))) (notFace_of_selects (args := #[]) (mvT hZ (hw _ (List.mem_of_getElem? (i := 15) rfl)))) (mvT hZ (hw _ (List.mem_of_getElem? (i := 15) rfl))) (mvT hZ (hw _ (List.mem_of_getElem? (i := 14) rfl))) (by decide) (backOf (W := 0) (rm_take l Z a0 hw [] b13 (tl (tl (tl mo))) (tr (tl (tl mo)) (tr (tl mo) (tr mo (0 : Int32)))) T17.heap n0 ([]) Z17  V17v) hZ (hw _ (List.mem_of_getElem? (i := 16) rfl)) (hw _ (List.mem_of_getElem? (i := 3) rfl)) (by decide) (by decide)) q18a q18c (g := (mkF m 39 #[.val (.long p0), .second, .val (.long mo), .second, .val (.ref b13), .val (.int (tk mo (0 : Int32))), .val (.int (tk (tl mo) (tr mo (0 : Int32)))), .val (.int (tk (tl (tl mo)) (tr (tl mo) (tr mo (0 : Int32))))), .unset, .unset, .unset] [(.ref b13)])) rfl (by rw [hml]; rfl) (Steps.refl _) (argsL := []) (rest := []) (lenOf pd_3 rfl) rfl (by show 2 * 0 + _ ≤ _; exact Nat.le_of_eq rfl) (hb hby at_39) (fun _ _ => ⟨rfl, rfl, Nat.le_of_ble_eq_true rfl, Nat.le_of_ble_eq_true rfl⟩)
  dsimp only [Pt.U, Pt.locs, Pt.cells, Pt.slots] at X18 l18 y18 z18 st18 hQ18
  subst l18 y18 z18
  obtain ⟨rfl, N18q, V18⟩ := hQ18
  have N18 := Fr.app N17 N18q
  have V18v : OView Z n0 T18.heap (((b13, Sum.inl ("com/example/inya/inya/AssignmentSearch$Tries", ns_AssignmentSearch_Tries, [(.long (tl (tl (tl (tl mo))))), (.int (tr (tl (tl (tl mo))) (tr (tl (tl mo)) (tr (tl mo) (tr mo (0 : Int32))))))])) : Addr × OObj) :: []) := V18
  have Z18 : n0 ≤ T18.heap.size := V18v.big 0 rfl
  refine OGets.after st18 ?_
  show OGets p e below _ (T18.setTop (mkF m 42 #[.val (.long p0), .second, .val (.long mo), .second, .val (.ref b13), .val (.int (tk mo (0 : Int32))), .val (.int (tk (tl mo) (tr mo (0 : Int32)))), .val (.int (tk (tl (tl mo)) (tr (tl mo) (tr mo (0 : Int32))))), .unset, .unset, .unset] [(.int (tk (tl (tl (tl mo))) (tr (tl (tl mo)) (tr (tl mo) (tr mo (0 : Int32))))))]))
  refine OGets.step (fun _ => XS.istore X18.here hx rfl (hb hby at_42) rfl (l' := #[.val (.long p0), .second, .val (.long mo), .second, .val (.ref b13), .val (.int (tk mo (0 : Int32))), .val (.int (tk (tl mo) (tr mo (0 : Int32)))), .val (.int (tk (tl (tl mo)) (tr (tl mo) (tr mo (0 : Int32))))), .val (.int (tk (tl (tl (tl mo))) (tr (tl (tl mo)) (tr (tl mo) (tr mo (0 : Int32)))))), .unset, .unset]) rfl) ?_
  show OGets p e below _ (T18.setTop (mkF m 44 #[.val (.long p0), .second, .val (.long mo), .second, .val (.ref b13), .val (.int (tk mo (0 : Int32))), .val (.int (tk (tl mo) (tr mo (0 : Int32)))), .val (.int (tk (tl (tl mo)) (tr (tl mo) (tr mo (0 : Int32))))), .val (.int (tk (tl (tl (tl mo))) (tr (tl (tl mo)) (tr (tl mo) (tr mo (0 : Int32)))))), .unset, .unset] []))
  refine OGets.step (fun _ => XS.aload X18.here hx rfl (hb hby at_44) rfl rfl) ?_
  show OGets p e below _ (T18.setTop (mkF m 46 #[.val (.long p0), .second, .val (.long mo), .second, .val (.ref b13), .val (.int (tk mo (0 : Int32))), .val (.int (tk (tl mo) (tr mo (0 : Int32)))), .val (.int (tk (tl (tl mo)) (tr (tl mo) (tr mo (0 : Int32))))), .val (.int (tk (tl (tl (tl mo))) (tr (tl (tl mo)) (tr (tl mo) (tr mo (0 : Int32)))))), .unset, .unset] [(.ref b13)]))
  obtain ⟨cq19, kq19, q19a, q19b, q19c⟩ := isOf hZ rfl (V18v.exa 0 rfl)
  obtain ⟨_, _, ⟨T19, L19, k19, n19⟩, -, X19, ⟨Lc19, hQ19, l19, y19, z19⟩, st19⟩ := X18.virtualBack hx (y := (⟨"com/example/inya/inya/AssignmentSearch$Tries", "take", "()Z"⟩ : MethodName)) (z := (⟨"com/example/inya/inya/AssignmentSearch$Tries", "take", "()Z"⟩ : MethodName)) hown (mvT hZ (hw _ (List.mem_of_getElem? (i := 12) rfl))) (mvT hZ (hw _ (List.mem_of_getElem? (i := 13) rfl))) (notFace_of_selects (args := #[]) (mvT hZ (hw _ (List.mem_of_getElem? (i := 15) rfl)))) (mvT hZ (hw _ (List.mem_of_getElem? (i := 15) rfl))) (mvT hZ (hw _ (List.mem_of_getElem? (i := 14) rfl))) (by decide) (backOf (W := 0) (rm_take l Z a0 hw [] b13 (tl (tl (tl (tl mo)))) (tr (tl (tl (tl mo))) (tr (tl (tl mo)) (tr (tl mo) (tr mo (0 : Int32))))) T18.heap n0 ([]) Z18  V18v) hZ (hw _ (List.mem_of_getElem? (i := 16) rfl)) (hw _ (List.mem_of_getElem? (i := 3) rfl)) (by decide) (by decide)) q19a q19c (g := (mkF m 46 #[.val (.long p0), .second, .val (.long mo), .second, .val (.ref b13), .val (.int (tk mo (0 : Int32))), .val (.int (tk (tl mo) (tr mo (0 : Int32)))), .val (.int (tk (tl (tl mo)) (tr (tl mo) (tr mo (0 : Int32))))), .val (.int (tk (tl (tl (tl mo))) (tr (tl (tl mo)) (tr (tl mo) (tr mo (0 : Int32)))))), .unset, .unset] [(.ref b13)])) rfl (by rw [hml]; rfl) (Steps.refl _) (argsL := []) (rest := []) (lenOf pd_3 rfl) rfl (by show 2 * 0 + _ ≤ _; exact Nat.le_of_eq rfl) (hb hby at_46) (fun _ _ => ⟨rfl, rfl, Nat.le_of_ble_eq_true rfl, Nat.le_of_ble_eq_true rfl⟩)
  dsimp only [Pt.U, Pt.locs, Pt.cells, Pt.slots] at X19 l19 y19 z19 st19 hQ19
  subst l19 y19 z19
  obtain ⟨rfl, N19q, V19⟩ := hQ19
  have N19 := Fr.app N18 N19q
  have V19v : OView Z n0 T19.heap (((b13, Sum.inl ("com/example/inya/inya/AssignmentSearch$Tries", ns_AssignmentSearch_Tries, [(.long (tl (tl (tl (tl (tl mo)))))), (.int (tr (tl (tl (tl (tl mo)))) (tr (tl (tl (tl mo))) (tr (tl (tl mo)) (tr (tl mo) (tr mo (0 : Int32)))))))])) : Addr × OObj) :: []) := V19
  have Z19 : n0 ≤ T19.heap.size := V19v.big 0 rfl
  refine OGets.after st19 ?_
  show OGets p e below _ (T19.setTop (mkF m 49 #[.val (.long p0), .second, .val (.long mo), .second, .val (.ref b13), .val (.int (tk mo (0 : Int32))), .val (.int (tk (tl mo) (tr mo (0 : Int32)))), .val (.int (tk (tl (tl mo)) (tr (tl mo) (tr mo (0 : Int32))))), .val (.int (tk (tl (tl (tl mo))) (tr (tl (tl mo)) (tr (tl mo) (tr mo (0 : Int32)))))), .unset, .unset] [(.int (tk (tl (tl (tl (tl mo)))) (tr (tl (tl (tl mo))) (tr (tl (tl mo)) (tr (tl mo) (tr mo (0 : Int32)))))))]))
  refine OGets.step (fun _ => XS.istore X19.here hx rfl (hb hby at_49) rfl (l' := #[.val (.long p0), .second, .val (.long mo), .second, .val (.ref b13), .val (.int (tk mo (0 : Int32))), .val (.int (tk (tl mo) (tr mo (0 : Int32)))), .val (.int (tk (tl (tl mo)) (tr (tl mo) (tr mo (0 : Int32))))), .val (.int (tk (tl (tl (tl mo))) (tr (tl (tl mo)) (tr (tl mo) (tr mo (0 : Int32)))))), .val (.int (tk (tl (tl (tl (tl mo)))) (tr (tl (tl (tl mo))) (tr (tl (tl mo)) (tr (tl mo) (tr mo (0 : Int32))))))), .unset]) rfl) ?_
  show OGets p e below _ (T19.setTop (mkF m 51 #[.val (.long p0), .second, .val (.long mo), .second, .val (.ref b13), .val (.int (tk mo (0 : Int32))), .val (.int (tk (tl mo) (tr mo (0 : Int32)))), .val (.int (tk (tl (tl mo)) (tr (tl mo) (tr mo (0 : Int32))))), .val (.int (tk (tl (tl (tl mo))) (tr (tl (tl mo)) (tr (tl mo) (tr mo (0 : Int32)))))), .val (.int (tk (tl (tl (tl (tl mo)))) (tr (tl (tl (tl mo))) (tr (tl (tl mo)) (tr (tl mo) (tr mo (0 : Int32))))))), .unset] []))
  refine OGets.step (fun _ => XS.aload X19.here hx rfl (hb hby at_51) rfl rfl) ?_
  show OGets p e below _ (T19.setTop (mkF m 53 #[.val (.long p0), .second, .val (.long mo), .second, .val (.ref b13), .val (.int (tk mo (0 : Int32))), .val (.int (tk (tl mo) (tr mo (0 : Int32)))), .val (.int (tk (tl (tl mo)) (tr (tl mo) (tr mo (0 : Int32))))), .val (.int (tk (tl (tl (tl mo))) (tr (tl (tl mo)) (tr (tl mo) (tr mo (0 : Int32)))))), .val (.int (tk (tl (tl (tl (tl mo)))) (tr (tl (tl (tl mo))) (tr (tl (tl mo)) (tr (tl mo) (tr mo (0 : Int32))))))), .unset] [(.ref b13)]))
  obtain ⟨cq20, kq20, q20a, q20b, q20c⟩ := isOf hZ rfl (V19v.exa 0 rfl)
  obtain ⟨_, _, ⟨T20, L20, k20, n20⟩, -, X20, ⟨Lc20, hQ20, l20, y20, z20⟩, st20⟩ := X19.virtualBack hx (y := (⟨"com/example/inya/inya/AssignmentSearch$Tries", "ranOut", "()Z"⟩ : MethodName)) (z := (⟨"com/example/inya/inya/AssignmentSearch$Tries", "ranOut", "()Z"⟩ : MethodName)) hown (mvT hZ (hw _ (List.mem_of_getElem? (i := 19) rfl))) (mvT hZ (hw _ (List.mem_of_getElem? (i := 20) rfl))) (notFace_of_selects (args := #[]) (mvT hZ (hw _ (List.mem_of_getElem? (i := 22) rfl)))) (mvT hZ (hw _ (List.mem_of_getElem? (i := 22) rfl))) (mvT hZ (hw _ (List.mem_of_getElem? (i := 21) rfl))) (by decide) (backOf (W := 0) (rm_ranOut l Z a0 hw [] b13 (tl (tl (tl (tl (tl mo))))) (tr (tl (tl (tl (tl mo)))) (tr (tl (tl (tl mo))) (tr (tl (tl mo)) (tr (tl mo) (tr mo (0 : Int32)))))) T19.heap n0 ([]) Z19  V19v) hZ (hw _ (List.mem_of_getElem? (i := 23) rfl)) (hw _ (List.mem_of_getElem? (i := 3) rfl)) (by decide) (by decide)) q20a q20c (g := (mkF m 53 #[.val (.long p0), .second, .val (.long mo), .second, .val (.ref b13), .val (.int (tk mo (0 : Int32))), .val (.int (tk (tl mo) (tr mo (0 : Int32)))), .val (.int (tk (tl (tl mo)) (tr (tl mo) (tr mo (0 : Int32))))), .val (.int (tk (tl (tl (tl mo))) (tr (tl (tl mo)) (tr (tl mo) (tr mo (0 : Int32)))))), .val (.int (tk (tl (tl (tl (tl mo)))) (tr (tl (tl (tl mo))) (tr (tl (tl mo)) (tr (tl mo) (tr mo (0 : Int32))))))), .unset] [(.ref b13)])) rfl (by rw [hml]; rfl) (Steps.refl _) (argsL := []) (rest := []) (lenOf pd_3 rfl) rfl (by show 2 * 0 + _ ≤ _; exact Nat.le_of_eq rfl) (hb hby at_53) (fun _ _ => ⟨rfl, rfl, Nat.le_of_ble_eq_true rfl, Nat.le_of_ble_eq_true rfl⟩)
  dsimp only [Pt.U, Pt.locs, Pt.cells, Pt.slots] at X20 l20 y20 z20 st20 hQ20
  subst l20 y20 z20
  obtain ⟨rfl, rfl, e20⟩ := hQ20
  have N20 := Fr.app N19 (Fr.nil n0)
  refine OGets.after st20 ?_
  show OGets p e below _ (T20.setTop (mkF m 56 #[.val (.long p0), .second, .val (.long mo), .second, .val (.ref b13), .val (.int (tk mo (0 : Int32))), .val (.int (tk (tl mo) (tr mo (0 : Int32)))), .val (.int (tk (tl (tl mo)) (tr (tl mo) (tr mo (0 : Int32))))), .val (.int (tk (tl (tl (tl mo))) (tr (tl (tl mo)) (tr (tl mo) (tr mo (0 : Int32)))))), .val (.int (tk (tl (tl (tl (tl mo)))) (tr (tl (tl (tl mo))) (tr (tl (tl mo)) (tr (tl mo) (tr mo (0 : Int32))))))), .unset] [(.int (nar .boolean (tr (tl (tl (tl (tl mo)))) (tr (tl (tl (tl mo))) (tr (tl (tl mo)) (tr (tl mo) (tr mo (0 : Int32))))))))]))
  refine OGets.step (fun _ => XS.istore X20.here hx rfl (hb hby at_56) rfl (l' := #[.val (.long p0), .second, .val (.long mo), .second, .val (.ref b13), .val (.int (tk mo (0 : Int32))), .val (.int (tk (tl mo) (tr mo (0 : Int32)))), .val (.int (tk (tl (tl mo)) (tr (tl mo) (tr mo (0 : Int32))))), .val (.int (tk (tl (tl (tl mo))) (tr (tl (tl mo)) (tr (tl mo) (tr mo (0 : Int32)))))), .val (.int (tk (tl (tl (tl (tl mo)))) (tr (tl (tl (tl mo))) (tr (tl (tl mo)) (tr (tl mo) (tr mo (0 : Int32))))))), .val (.int (nar .boolean (tr (tl (tl (tl (tl mo)))) (tr (tl (tl (tl mo))) (tr (tl (tl mo)) (tr (tl mo) (tr mo (0 : Int32))))))))]) rfl) ?_
  refine OGets.cut (U' := T20.setTop (mkF m 74 #[.val (.long p0), .second, .val (.long mo), .second, .val (.ref b13), .val (.int (tk mo (0 : Int32))), .val (.int (tk (tl mo) (tr mo (0 : Int32)))), .val (.int (tk (tl (tl mo)) (tr (tl mo) (tr mo (0 : Int32))))), .val (.int (tk (tl (tl (tl mo))) (tr (tl (tl mo)) (tr (tl mo) (tr mo (0 : Int32)))))), .val (.int (tk (tl (tl (tl (tl mo)))) (tr (tl (tl (tl mo))) (tr (tl (tl mo)) (tr (tl mo) (tr mo (0 : Int32))))))), .val (.int (nar .boolean (tr (tl (tl (tl (tl mo)))) (tr (tl (tl (tl mo))) (tr (tl (tl mo)) (tr (tl mo) (tr mo (0 : Int32))))))))] [])) ?_ (fun K21 => ?_)
  · refine OGets.cut (U' := T20.setTop (mkF m 92 #[.val (.long p0), .second, .val (.long mo), .second, .val (.ref b13), .val (.int (tk mo (0 : Int32))), .val (.int (tk (tl mo) (tr mo (0 : Int32)))), .val (.int (tk (tl (tl mo)) (tr (tl mo) (tr mo (0 : Int32))))), .val (.int (tk (tl (tl (tl mo))) (tr (tl (tl mo)) (tr (tl mo) (tr mo (0 : Int32)))))), .val (.int (tk (tl (tl (tl (tl mo)))) (tr (tl (tl (tl mo))) (tr (tl (tl mo)) (tr (tl mo) (tr mo (0 : Int32))))))), .val (.int (nar .boolean (tr (tl (tl (tl (tl mo)))) (tr (tl (tl (tl mo))) (tr (tl (tl mo)) (tr (tl mo) (tr mo (0 : Int32))))))))] [])) ?_ (fun K22 => ?_)
    · refine OGets.cut (U' := T20.setTop (mkF m 110 #[.val (.long p0), .second, .val (.long mo), .second, .val (.ref b13), .val (.int (tk mo (0 : Int32))), .val (.int (tk (tl mo) (tr mo (0 : Int32)))), .val (.int (tk (tl (tl mo)) (tr (tl mo) (tr mo (0 : Int32))))), .val (.int (tk (tl (tl (tl mo))) (tr (tl (tl mo)) (tr (tl mo) (tr mo (0 : Int32)))))), .val (.int (tk (tl (tl (tl (tl mo)))) (tr (tl (tl (tl mo))) (tr (tl (tl mo)) (tr (tl mo) (tr mo (0 : Int32))))))), .val (.int (nar .boolean (tr (tl (tl (tl (tl mo)))) (tr (tl (tl (tl mo))) (tr (tl (tl mo)) (tr (tl mo) (tr mo (0 : Int32))))))))] [])) ?_ (fun K23 => ?_)
      · refine OGets.cut (U' := T20.setTop (mkF m 128 #[.val (.long p0), .second, .val (.long mo), .second, .val (.ref b13), .val (.int (tk mo (0 : Int32))), .val (.int (tk (tl mo) (tr mo (0 : Int32)))), .val (.int (tk (tl (tl mo)) (tr (tl mo) (tr mo (0 : Int32))))), .val (.int (tk (tl (tl (tl mo))) (tr (tl (tl mo)) (tr (tl mo) (tr mo (0 : Int32)))))), .val (.int (tk (tl (tl (tl (tl mo)))) (tr (tl (tl (tl mo))) (tr (tl (tl mo)) (tr (tl mo) (tr mo (0 : Int32))))))), .val (.int (nar .boolean (tr (tl (tl (tl (tl mo)))) (tr (tl (tl (tl mo))) (tr (tl (tl mo)) (tr (tl mo) (tr mo (0 : Int32))))))))] [])) ?_ (fun K24 => ?_)
        · refine OGets.cut (U' := T20.setTop (mkF m 146 #[.val (.long p0), .second, .val (.long mo), .second, .val (.ref b13), .val (.int (tk mo (0 : Int32))), .val (.int (tk (tl mo) (tr mo (0 : Int32)))), .val (.int (tk (tl (tl mo)) (tr (tl mo) (tr mo (0 : Int32))))), .val (.int (tk (tl (tl (tl mo))) (tr (tl (tl mo)) (tr (tl mo) (tr mo (0 : Int32)))))), .val (.int (tk (tl (tl (tl (tl mo)))) (tr (tl (tl (tl mo))) (tr (tl (tl mo)) (tr (tl mo) (tr mo (0 : Int32))))))), .val (.int (nar .boolean (tr (tl (tl (tl (tl mo)))) (tr (tl (tl (tl mo))) (tr (tl (tl mo)) (tr (tl mo) (tr mo (0 : Int32))))))))] [])) ?_ (fun K25 => ?_)
          · refine OGets.cut (U' := T20.setTop (mkF m 164 #[.val (.long p0), .second, .val (.long mo), .second, .val (.ref b13), .val (.int (tk mo (0 : Int32))), .val (.int (tk (tl mo) (tr mo (0 : Int32)))), .val (.int (tk (tl (tl mo)) (tr (tl mo) (tr mo (0 : Int32))))), .val (.int (tk (tl (tl (tl mo))) (tr (tl (tl mo)) (tr (tl mo) (tr mo (0 : Int32)))))), .val (.int (tk (tl (tl (tl (tl mo)))) (tr (tl (tl (tl mo))) (tr (tl (tl mo)) (tr (tl mo) (tr mo (0 : Int32))))))), .val (.int (nar .boolean (tr (tl (tl (tl (tl mo)))) (tr (tl (tl (tl mo))) (tr (tl (tl mo)) (tr (tl mo) (tr mo (0 : Int32))))))))] [])) ?_ (fun K26 => ?_)
            · show OGets p e below _ (T20.setTop (mkF m 164 #[.val (.long p0), .second, .val (.long mo), .second, .val (.ref b13), .val (.int (tk mo (0 : Int32))), .val (.int (tk (tl mo) (tr mo (0 : Int32)))), .val (.int (tk (tl (tl mo)) (tr (tl mo) (tr mo (0 : Int32))))), .val (.int (tk (tl (tl (tl mo))) (tr (tl (tl mo)) (tr (tl mo) (tr mo (0 : Int32)))))), .val (.int (tk (tl (tl (tl (tl mo)))) (tr (tl (tl (tl mo))) (tr (tl (tl mo)) (tr (tl mo) (tr mo (0 : Int32))))))), .val (.int (nar .boolean (tr (tl (tl (tl (tl mo)))) (tr (tl (tl (tl mo))) (tr (tl (tl mo)) (tr (tl mo) (tr mo (0 : Int32))))))))] []))
              refine OGets.step (fun _ => XS.iconst X20.here hx rfl (hb hby at_164)) ?_
              show OGets p e below _ (T20.setTop (mkF m 165 #[.val (.long p0), .second, .val (.long mo), .second, .val (.ref b13), .val (.int (tk mo (0 : Int32))), .val (.int (tk (tl mo) (tr mo (0 : Int32)))), .val (.int (tk (tl (tl mo)) (tr (tl mo) (tr mo (0 : Int32))))), .val (.int (tk (tl (tl (tl mo))) (tr (tl (tl mo)) (tr (tl mo) (tr mo (0 : Int32)))))), .val (.int (tk (tl (tl (tl (tl mo)))) (tr (tl (tl (tl mo))) (tr (tl (tl mo)) (tr (tl mo) (tr mo (0 : Int32))))))), .val (.int (nar .boolean (tr (tl (tl (tl (tl mo)))) (tr (tl (tl (tl mo))) (tr (tl (tl mo)) (tr (tl mo) (tr mo (0 : Int32))))))))] [(.int (1 : Int32))]))
              refine OGets.step (fun _ => XS.goto X20.here hx rfl (pc0 := 165) (pc' := 169) rfl (hb hby at_165) (by decide) (by decide)) ?_
              show OGets p e below _ (T20.setTop (mkF m 169 #[.val (.long p0), .second, .val (.long mo), .second, .val (.ref b13), .val (.int (tk mo (0 : Int32))), .val (.int (tk (tl mo) (tr mo (0 : Int32)))), .val (.int (tk (tl (tl mo)) (tr (tl mo) (tr mo (0 : Int32))))), .val (.int (tk (tl (tl (tl mo))) (tr (tl (tl mo)) (tr (tl mo) (tr mo (0 : Int32)))))), .val (.int (tk (tl (tl (tl (tl mo)))) (tr (tl (tl (tl mo))) (tr (tl (tl mo)) (tr (tl mo) (tr mo (0 : Int32))))))), .val (.int (nar .boolean (tr (tl (tl (tl (tl mo)))) (tr (tl (tl (tl mo))) (tr (tl (tl mo)) (tr (tl mo) (tr mo (0 : Int32))))))))] [(.int (1 : Int32))]))
              refine OGets.retN X20 hx hlk (t := .boolean) Bd.returns (by simp) (hb hby at_169) (Nat.le_of_ble_eq_true rfl) (Nat.le_of_ble_eq_true rfl) ?_
              exact ⟨rfl, N20⟩
            show OGets p e below _ (T20.setTop (mkF m 146 #[.val (.long p0), .second, .val (.long mo), .second, .val (.ref b13), .val (.int (tk mo (0 : Int32))), .val (.int (tk (tl mo) (tr mo (0 : Int32)))), .val (.int (tk (tl (tl mo)) (tr (tl mo) (tr mo (0 : Int32))))), .val (.int (tk (tl (tl (tl mo))) (tr (tl (tl mo)) (tr (tl mo) (tr mo (0 : Int32)))))), .val (.int (tk (tl (tl (tl (tl mo)))) (tr (tl (tl (tl mo))) (tr (tl (tl mo)) (tr (tl mo) (tr mo (0 : Int32))))))), .val (.int (nar .boolean (tr (tl (tl (tl (tl mo)))) (tr (tl (tl (tl mo))) (tr (tl (tl mo)) (tr (tl mo) (tr mo (0 : Int32))))))))] []))
            refine OGets.step (fun _ => XS.iload X20.here hx rfl (hb hby at_146) rfl) ?_
            show OGets p e below _ (T20.setTop (mkF m 148 #[.val (.long p0), .second, .val (.long mo), .second, .val (.ref b13), .val (.int (tk mo (0 : Int32))), .val (.int (tk (tl mo) (tr mo (0 : Int32)))), .val (.int (tk (tl (tl mo)) (tr (tl mo) (tr mo (0 : Int32))))), .val (.int (tk (tl (tl (tl mo))) (tr (tl (tl mo)) (tr (tl mo) (tr mo (0 : Int32)))))), .val (.int (tk (tl (tl (tl (tl mo)))) (tr (tl (tl (tl mo))) (tr (tl (tl mo)) (tr (tl mo) (tr mo (0 : Int32))))))), .val (.int (nar .boolean (tr (tl (tl (tl (tl mo)))) (tr (tl (tl (tl mo))) (tr (tl (tl mo)) (tr (tl mo) (tr mo (0 : Int32))))))))] [(.int (nar .boolean (tr (tl (tl (tl (tl mo)))) (tr (tl (tl (tl mo))) (tr (tl (tl mo)) (tr (tl mo) (tr mo (0 : Int32))))))))]))
            refine OGets.step (fun _ => XS.lloadN X20.here hx rfl (hb hby at_148) rfl) ?_
            show OGets p e below _ (T20.setTop (mkF m 149 #[.val (.long p0), .second, .val (.long mo), .second, .val (.ref b13), .val (.int (tk mo (0 : Int32))), .val (.int (tk (tl mo) (tr mo (0 : Int32)))), .val (.int (tk (tl (tl mo)) (tr (tl mo) (tr mo (0 : Int32))))), .val (.int (tk (tl (tl (tl mo))) (tr (tl (tl mo)) (tr (tl mo) (tr mo (0 : Int32)))))), .val (.int (tk (tl (tl (tl (tl mo)))) (tr (tl (tl (tl mo))) (tr (tl (tl mo)) (tr (tl mo) (tr mo (0 : Int32))))))), .val (.int (nar .boolean (tr (tl (tl (tl (tl mo)))) (tr (tl (tl (tl mo))) (tr (tl (tl mo)) (tr (tl mo) (tr mo (0 : Int32))))))))] [(.long mo), (.int (nar .boolean (tr (tl (tl (tl (tl mo)))) (tr (tl (tl (tl mo))) (tr (tl (tl mo)) (tr (tl mo) (tr mo (0 : Int32))))))))]))
            refine OGets.step (fun _ => X20.ldc2Long hx hown (mvT hZ (hw _ (List.mem_of_getElem? (i := 27) rfl))) (g := (mkF m 149 #[.val (.long p0), .second, .val (.long mo), .second, .val (.ref b13), .val (.int (tk mo (0 : Int32))), .val (.int (tk (tl mo) (tr mo (0 : Int32)))), .val (.int (tk (tl (tl mo)) (tr (tl mo) (tr mo (0 : Int32))))), .val (.int (tk (tl (tl (tl mo))) (tr (tl (tl mo)) (tr (tl mo) (tr mo (0 : Int32)))))), .val (.int (tk (tl (tl (tl (tl mo)))) (tr (tl (tl (tl mo))) (tr (tl (tl mo)) (tr (tl mo) (tr mo (0 : Int32))))))), .val (.int (nar .boolean (tr (tl (tl (tl (tl mo)))) (tr (tl (tl (tl mo))) (tr (tl (tl mo)) (tr (tl mo) (tr mo (0 : Int32))))))))] [(.long mo), (.int (nar .boolean (tr (tl (tl (tl (tl mo)))) (tr (tl (tl (tl mo))) (tr (tl (tl mo)) (tr (tl mo) (tr mo (0 : Int32))))))))])) rfl (hb hby at_149) _) ?_
            show OGets p e below _ (T20.setTop (mkF m 152 #[.val (.long p0), .second, .val (.long mo), .second, .val (.ref b13), .val (.int (tk mo (0 : Int32))), .val (.int (tk (tl mo) (tr mo (0 : Int32)))), .val (.int (tk (tl (tl mo)) (tr (tl mo) (tr mo (0 : Int32))))), .val (.int (tk (tl (tl (tl mo))) (tr (tl (tl mo)) (tr (tl mo) (tr mo (0 : Int32)))))), .val (.int (tk (tl (tl (tl (tl mo)))) (tr (tl (tl (tl mo))) (tr (tl (tl mo)) (tr (tl mo) (tr mo (0 : Int32))))))), .val (.int (nar .boolean (tr (tl (tl (tl (tl mo)))) (tr (tl (tl (tl mo))) (tr (tl (tl mo)) (tr (tl mo) (tr mo (0 : Int32))))))))] [(.long (5 : Int64)), (.long mo), (.int (nar .boolean (tr (tl (tl (tl (tl mo)))) (tr (tl (tl (tl mo))) (tr (tl (tl mo)) (tr (tl mo) (tr mo (0 : Int32))))))))]))
            refine OGets.step (fun _ => XS.lcmp X20.here hx rfl (hb hby at_152) rfl) ?_
            show OGets p e below _ (T20.setTop (mkF m 153 #[.val (.long p0), .second, .val (.long mo), .second, .val (.ref b13), .val (.int (tk mo (0 : Int32))), .val (.int (tk (tl mo) (tr mo (0 : Int32)))), .val (.int (tk (tl (tl mo)) (tr (tl mo) (tr mo (0 : Int32))))), .val (.int (tk (tl (tl (tl mo))) (tr (tl (tl mo)) (tr (tl mo) (tr mo (0 : Int32)))))), .val (.int (tk (tl (tl (tl (tl mo)))) (tr (tl (tl (tl mo))) (tr (tl (tl mo)) (tr (tl mo) (tr mo (0 : Int32))))))), .val (.int (nar .boolean (tr (tl (tl (tl (tl mo)))) (tr (tl (tl (tl mo))) (tr (tl (tl mo)) (tr (tl mo) (tr mo (0 : Int32))))))))] [(.int (lcmpW mo (5 : Int64))), (.int (nar .boolean (tr (tl (tl (tl (tl mo)))) (tr (tl (tl (tl mo))) (tr (tl (tl mo)) (tr (tl mo) (tr mo (0 : Int32))))))))]))
            by_cases hc153_27 : mo < (5 : Int64)
            · refine OGets.step (fun _ => XS.ifNo X20.here hx rfl (hb hby at_153) rfl ((if0 _ _).trans (tlt ((lw_lt _ _).mpr hc153_27)).2.1)) ?_
              show OGets p e below _ (T20.setTop (mkF m 156 #[.val (.long p0), .second, .val (.long mo), .second, .val (.ref b13), .val (.int (tk mo (0 : Int32))), .val (.int (tk (tl mo) (tr mo (0 : Int32)))), .val (.int (tk (tl (tl mo)) (tr (tl mo) (tr mo (0 : Int32))))), .val (.int (tk (tl (tl (tl mo))) (tr (tl (tl mo)) (tr (tl mo) (tr mo (0 : Int32)))))), .val (.int (tk (tl (tl (tl (tl mo)))) (tr (tl (tl (tl mo))) (tr (tl (tl mo)) (tr (tl mo) (tr mo (0 : Int32))))))), .val (.int (nar .boolean (tr (tl (tl (tl (tl mo)))) (tr (tl (tl (tl mo))) (tr (tl (tl mo)) (tr (tl mo) (tr mo (0 : Int32))))))))] [(.int (nar .boolean (tr (tl (tl (tl (tl mo)))) (tr (tl (tl (tl mo))) (tr (tl (tl mo)) (tr (tl mo) (tr mo (0 : Int32))))))))]))
              refine OGets.step (fun _ => XS.iconst X20.here hx rfl (hb hby at_156)) ?_
              show OGets p e below _ (T20.setTop (mkF m 157 #[.val (.long p0), .second, .val (.long mo), .second, .val (.ref b13), .val (.int (tk mo (0 : Int32))), .val (.int (tk (tl mo) (tr mo (0 : Int32)))), .val (.int (tk (tl (tl mo)) (tr (tl mo) (tr mo (0 : Int32))))), .val (.int (tk (tl (tl (tl mo))) (tr (tl (tl mo)) (tr (tl mo) (tr mo (0 : Int32)))))), .val (.int (tk (tl (tl (tl (tl mo)))) (tr (tl (tl (tl mo))) (tr (tl (tl mo)) (tr (tl mo) (tr mo (0 : Int32))))))), .val (.int (nar .boolean (tr (tl (tl (tl (tl mo)))) (tr (tl (tl (tl mo))) (tr (tl (tl mo)) (tr (tl mo) (tr mo (0 : Int32))))))))] [(.int (1 : Int32)), (.int (nar .boolean (tr (tl (tl (tl (tl mo)))) (tr (tl (tl (tl mo))) (tr (tl (tl mo)) (tr (tl mo) (tr mo (0 : Int32))))))))]))
              refine OGets.step (fun _ => XS.goto X20.here hx rfl (pc0 := 157) (pc' := 161) rfl (hb hby at_157) (by decide) (by decide)) ?_
              show OGets p e below _ (T20.setTop (mkF m 161 #[.val (.long p0), .second, .val (.long mo), .second, .val (.ref b13), .val (.int (tk mo (0 : Int32))), .val (.int (tk (tl mo) (tr mo (0 : Int32)))), .val (.int (tk (tl (tl mo)) (tr (tl mo) (tr mo (0 : Int32))))), .val (.int (tk (tl (tl (tl mo))) (tr (tl (tl mo)) (tr (tl mo) (tr mo (0 : Int32)))))), .val (.int (tk (tl (tl (tl (tl mo)))) (tr (tl (tl (tl mo))) (tr (tl (tl mo)) (tr (tl mo) (tr mo (0 : Int32))))))), .val (.int (nar .boolean (tr (tl (tl (tl (tl mo)))) (tr (tl (tl (tl mo))) (tr (tl (tl mo)) (tr (tl mo) (tr mo (0 : Int32))))))))] [(.int (1 : Int32)), (.int (nar .boolean (tr (tl (tl (tl (tl mo)))) (tr (tl (tl (tl mo))) (tr (tl (tl mo)) (tr (tl mo) (tr mo (0 : Int32))))))))]))
              refine OGets.step (fun _ => XS.icmpNo X20.here hx rfl (hb hby at_161) rfl (teq (own_r6t _ hm0 hc153_27 : (nar .boolean (tr (tl (tl (tl (tl mo)))) (tr (tl (tl (tl mo))) (tr (tl (tl mo)) (tr (tl mo) (tr mo (0 : Int32))))))) = (1 : Int32))).2) ?_
              exact K26
            · refine OGets.step (fun _ => XS.ifYes X20.here hx rfl (pc0 := 153) (pc' := 160) rfl (hb hby at_153) rfl ((if0 _ _).trans (flt (fun q => hc153_27 ((lw_lt _ _).mp q))).2.1) (by decide) (by decide)) ?_
              show OGets p e below _ (T20.setTop (mkF m 160 #[.val (.long p0), .second, .val (.long mo), .second, .val (.ref b13), .val (.int (tk mo (0 : Int32))), .val (.int (tk (tl mo) (tr mo (0 : Int32)))), .val (.int (tk (tl (tl mo)) (tr (tl mo) (tr mo (0 : Int32))))), .val (.int (tk (tl (tl (tl mo))) (tr (tl (tl mo)) (tr (tl mo) (tr mo (0 : Int32)))))), .val (.int (tk (tl (tl (tl (tl mo)))) (tr (tl (tl (tl mo))) (tr (tl (tl mo)) (tr (tl mo) (tr mo (0 : Int32))))))), .val (.int (nar .boolean (tr (tl (tl (tl (tl mo)))) (tr (tl (tl (tl mo))) (tr (tl (tl mo)) (tr (tl mo) (tr mo (0 : Int32))))))))] [(.int (nar .boolean (tr (tl (tl (tl (tl mo)))) (tr (tl (tl (tl mo))) (tr (tl (tl mo)) (tr (tl mo) (tr mo (0 : Int32))))))))]))
              refine OGets.step (fun _ => XS.iconst X20.here hx rfl (hb hby at_160)) ?_
              show OGets p e below _ (T20.setTop (mkF m 161 #[.val (.long p0), .second, .val (.long mo), .second, .val (.ref b13), .val (.int (tk mo (0 : Int32))), .val (.int (tk (tl mo) (tr mo (0 : Int32)))), .val (.int (tk (tl (tl mo)) (tr (tl mo) (tr mo (0 : Int32))))), .val (.int (tk (tl (tl (tl mo))) (tr (tl (tl mo)) (tr (tl mo) (tr mo (0 : Int32)))))), .val (.int (tk (tl (tl (tl (tl mo)))) (tr (tl (tl (tl mo))) (tr (tl (tl mo)) (tr (tl mo) (tr mo (0 : Int32))))))), .val (.int (nar .boolean (tr (tl (tl (tl (tl mo)))) (tr (tl (tl (tl mo))) (tr (tl (tl mo)) (tr (tl mo) (tr mo (0 : Int32))))))))] [(.int (0 : Int32)), (.int (nar .boolean (tr (tl (tl (tl (tl mo)))) (tr (tl (tl (tl mo))) (tr (tl (tl mo)) (tr (tl mo) (tr mo (0 : Int32))))))))]))
              refine OGets.step (fun _ => XS.icmpNo X20.here hx rfl (hb hby at_161) rfl (teq (own_r6f _ hm0 hc153_27 : (nar .boolean (tr (tl (tl (tl (tl mo)))) (tr (tl (tl (tl mo))) (tr (tl (tl mo)) (tr (tl mo) (tr mo (0 : Int32))))))) = (0 : Int32))).2) ?_
              exact K26
          show OGets p e below _ (T20.setTop (mkF m 128 #[.val (.long p0), .second, .val (.long mo), .second, .val (.ref b13), .val (.int (tk mo (0 : Int32))), .val (.int (tk (tl mo) (tr mo (0 : Int32)))), .val (.int (tk (tl (tl mo)) (tr (tl mo) (tr mo (0 : Int32))))), .val (.int (tk (tl (tl (tl mo))) (tr (tl (tl mo)) (tr (tl mo) (tr mo (0 : Int32)))))), .val (.int (tk (tl (tl (tl (tl mo)))) (tr (tl (tl (tl mo))) (tr (tl (tl mo)) (tr (tl mo) (tr mo (0 : Int32))))))), .val (.int (nar .boolean (tr (tl (tl (tl (tl mo)))) (tr (tl (tl (tl mo))) (tr (tl (tl mo)) (tr (tl mo) (tr mo (0 : Int32))))))))] []))
          refine OGets.step (fun _ => XS.iload X20.here hx rfl (hb hby at_128) rfl) ?_
          show OGets p e below _ (T20.setTop (mkF m 130 #[.val (.long p0), .second, .val (.long mo), .second, .val (.ref b13), .val (.int (tk mo (0 : Int32))), .val (.int (tk (tl mo) (tr mo (0 : Int32)))), .val (.int (tk (tl (tl mo)) (tr (tl mo) (tr mo (0 : Int32))))), .val (.int (tk (tl (tl (tl mo))) (tr (tl (tl mo)) (tr (tl mo) (tr mo (0 : Int32)))))), .val (.int (tk (tl (tl (tl (tl mo)))) (tr (tl (tl (tl mo))) (tr (tl (tl mo)) (tr (tl mo) (tr mo (0 : Int32))))))), .val (.int (nar .boolean (tr (tl (tl (tl (tl mo)))) (tr (tl (tl (tl mo))) (tr (tl (tl mo)) (tr (tl mo) (tr mo (0 : Int32))))))))] [(.int (tk (tl (tl (tl (tl mo)))) (tr (tl (tl (tl mo))) (tr (tl (tl mo)) (tr (tl mo) (tr mo (0 : Int32)))))))]))
          refine OGets.step (fun _ => X20.ldc2Long hx hown (mvT hZ (hw _ (List.mem_of_getElem? (i := 27) rfl))) (g := (mkF m 130 #[.val (.long p0), .second, .val (.long mo), .second, .val (.ref b13), .val (.int (tk mo (0 : Int32))), .val (.int (tk (tl mo) (tr mo (0 : Int32)))), .val (.int (tk (tl (tl mo)) (tr (tl mo) (tr mo (0 : Int32))))), .val (.int (tk (tl (tl (tl mo))) (tr (tl (tl mo)) (tr (tl mo) (tr mo (0 : Int32)))))), .val (.int (tk (tl (tl (tl (tl mo)))) (tr (tl (tl (tl mo))) (tr (tl (tl mo)) (tr (tl mo) (tr mo (0 : Int32))))))), .val (.int (nar .boolean (tr (tl (tl (tl (tl mo)))) (tr (tl (tl (tl mo))) (tr (tl (tl mo)) (tr (tl mo) (tr mo (0 : Int32))))))))] [(.int (tk (tl (tl (tl (tl mo)))) (tr (tl (tl (tl mo))) (tr (tl (tl mo)) (tr (tl mo) (tr mo (0 : Int32)))))))])) rfl (hb hby at_130) _) ?_
          show OGets p e below _ (T20.setTop (mkF m 133 #[.val (.long p0), .second, .val (.long mo), .second, .val (.ref b13), .val (.int (tk mo (0 : Int32))), .val (.int (tk (tl mo) (tr mo (0 : Int32)))), .val (.int (tk (tl (tl mo)) (tr (tl mo) (tr mo (0 : Int32))))), .val (.int (tk (tl (tl (tl mo))) (tr (tl (tl mo)) (tr (tl mo) (tr mo (0 : Int32)))))), .val (.int (tk (tl (tl (tl (tl mo)))) (tr (tl (tl (tl mo))) (tr (tl (tl mo)) (tr (tl mo) (tr mo (0 : Int32))))))), .val (.int (nar .boolean (tr (tl (tl (tl (tl mo)))) (tr (tl (tl (tl mo))) (tr (tl (tl mo)) (tr (tl mo) (tr mo (0 : Int32))))))))] [(.long (5 : Int64)), (.int (tk (tl (tl (tl (tl mo)))) (tr (tl (tl (tl mo))) (tr (tl (tl mo)) (tr (tl mo) (tr mo (0 : Int32)))))))]))
          refine OGets.step (fun _ => XS.lloadN X20.here hx rfl (hb hby at_133) rfl) ?_
          show OGets p e below _ (T20.setTop (mkF m 134 #[.val (.long p0), .second, .val (.long mo), .second, .val (.ref b13), .val (.int (tk mo (0 : Int32))), .val (.int (tk (tl mo) (tr mo (0 : Int32)))), .val (.int (tk (tl (tl mo)) (tr (tl mo) (tr mo (0 : Int32))))), .val (.int (tk (tl (tl (tl mo))) (tr (tl (tl mo)) (tr (tl mo) (tr mo (0 : Int32)))))), .val (.int (tk (tl (tl (tl (tl mo)))) (tr (tl (tl (tl mo))) (tr (tl (tl mo)) (tr (tl mo) (tr mo (0 : Int32))))))), .val (.int (nar .boolean (tr (tl (tl (tl (tl mo)))) (tr (tl (tl (tl mo))) (tr (tl (tl mo)) (tr (tl mo) (tr mo (0 : Int32))))))))] [(.long mo), (.long (5 : Int64)), (.int (tk (tl (tl (tl (tl mo)))) (tr (tl (tl (tl mo))) (tr (tl (tl mo)) (tr (tl mo) (tr mo (0 : Int32)))))))]))
          refine OGets.step (fun _ => XS.lcmp X20.here hx rfl (hb hby at_134) rfl) ?_
          show OGets p e below _ (T20.setTop (mkF m 135 #[.val (.long p0), .second, .val (.long mo), .second, .val (.ref b13), .val (.int (tk mo (0 : Int32))), .val (.int (tk (tl mo) (tr mo (0 : Int32)))), .val (.int (tk (tl (tl mo)) (tr (tl mo) (tr mo (0 : Int32))))), .val (.int (tk (tl (tl (tl mo))) (tr (tl (tl mo)) (tr (tl mo) (tr mo (0 : Int32)))))), .val (.int (tk (tl (tl (tl (tl mo)))) (tr (tl (tl (tl mo))) (tr (tl (tl mo)) (tr (tl mo) (tr mo (0 : Int32))))))), .val (.int (nar .boolean (tr (tl (tl (tl (tl mo)))) (tr (tl (tl (tl mo))) (tr (tl (tl mo)) (tr (tl mo) (tr mo (0 : Int32))))))))] [(.int (lcmpW (5 : Int64) mo)), (.int (tk (tl (tl (tl (tl mo)))) (tr (tl (tl (tl mo))) (tr (tl (tl mo)) (tr (tl mo) (tr mo (0 : Int32)))))))]))
          by_cases hc135_30 : mo < (5 : Int64)
          · refine OGets.step (fun _ => XS.ifYes X20.here hx rfl (pc0 := 135) (pc' := 142) rfl (hb hby at_135) rfl ((if0 _ _).trans (tlt ((lw_gt _ _).mpr hc135_30)).2.2.1) (by decide) (by decide)) ?_
            show OGets p e below _ (T20.setTop (mkF m 142 #[.val (.long p0), .second, .val (.long mo), .second, .val (.ref b13), .val (.int (tk mo (0 : Int32))), .val (.int (tk (tl mo) (tr mo (0 : Int32)))), .val (.int (tk (tl (tl mo)) (tr (tl mo) (tr mo (0 : Int32))))), .val (.int (tk (tl (tl (tl mo))) (tr (tl (tl mo)) (tr (tl mo) (tr mo (0 : Int32)))))), .val (.int (tk (tl (tl (tl (tl mo)))) (tr (tl (tl (tl mo))) (tr (tl (tl mo)) (tr (tl mo) (tr mo (0 : Int32))))))), .val (.int (nar .boolean (tr (tl (tl (tl (tl mo)))) (tr (tl (tl (tl mo))) (tr (tl (tl mo)) (tr (tl mo) (tr mo (0 : Int32))))))))] [(.int (tk (tl (tl (tl (tl mo)))) (tr (tl (tl (tl mo))) (tr (tl (tl mo)) (tr (tl mo) (tr mo (0 : Int32)))))))]))
            refine OGets.step (fun _ => XS.iconst X20.here hx rfl (hb hby at_142)) ?_
            show OGets p e below _ (T20.setTop (mkF m 143 #[.val (.long p0), .second, .val (.long mo), .second, .val (.ref b13), .val (.int (tk mo (0 : Int32))), .val (.int (tk (tl mo) (tr mo (0 : Int32)))), .val (.int (tk (tl (tl mo)) (tr (tl mo) (tr mo (0 : Int32))))), .val (.int (tk (tl (tl (tl mo))) (tr (tl (tl mo)) (tr (tl mo) (tr mo (0 : Int32)))))), .val (.int (tk (tl (tl (tl (tl mo)))) (tr (tl (tl (tl mo))) (tr (tl (tl mo)) (tr (tl mo) (tr mo (0 : Int32))))))), .val (.int (nar .boolean (tr (tl (tl (tl (tl mo)))) (tr (tl (tl (tl mo))) (tr (tl (tl mo)) (tr (tl mo) (tr mo (0 : Int32))))))))] [(.int (0 : Int32)), (.int (tk (tl (tl (tl (tl mo)))) (tr (tl (tl (tl mo))) (tr (tl (tl mo)) (tr (tl mo) (tr mo (0 : Int32)))))))]))
            refine OGets.step (fun _ => XS.icmpNo X20.here hx rfl (hb hby at_143) rfl (teq (own_r5t _ hm0 hc135_30 : (tk (tl (tl (tl (tl mo)))) (tr (tl (tl (tl mo))) (tr (tl (tl mo)) (tr (tl mo) (tr mo (0 : Int32)))))) = (0 : Int32))).2) ?_
            exact K25
          · refine OGets.step (fun _ => XS.ifNo X20.here hx rfl (hb hby at_135) rfl ((if0 _ _).trans (flt (fun q => hc135_30 ((lw_gt _ _).mp q))).2.2.1)) ?_
            show OGets p e below _ (T20.setTop (mkF m 138 #[.val (.long p0), .second, .val (.long mo), .second, .val (.ref b13), .val (.int (tk mo (0 : Int32))), .val (.int (tk (tl mo) (tr mo (0 : Int32)))), .val (.int (tk (tl (tl mo)) (tr (tl mo) (tr mo (0 : Int32))))), .val (.int (tk (tl (tl (tl mo))) (tr (tl (tl mo)) (tr (tl mo) (tr mo (0 : Int32)))))), .val (.int (tk (tl (tl (tl (tl mo)))) (tr (tl (tl (tl mo))) (tr (tl (tl mo)) (tr (tl mo) (tr mo (0 : Int32))))))), .val (.int (nar .boolean (tr (tl (tl (tl (tl mo)))) (tr (tl (tl (tl mo))) (tr (tl (tl mo)) (tr (tl mo) (tr mo (0 : Int32))))))))] [(.int (tk (tl (tl (tl (tl mo)))) (tr (tl (tl (tl mo))) (tr (tl (tl mo)) (tr (tl mo) (tr mo (0 : Int32)))))))]))
            refine OGets.step (fun _ => XS.iconst X20.here hx rfl (hb hby at_138)) ?_
            show OGets p e below _ (T20.setTop (mkF m 139 #[.val (.long p0), .second, .val (.long mo), .second, .val (.ref b13), .val (.int (tk mo (0 : Int32))), .val (.int (tk (tl mo) (tr mo (0 : Int32)))), .val (.int (tk (tl (tl mo)) (tr (tl mo) (tr mo (0 : Int32))))), .val (.int (tk (tl (tl (tl mo))) (tr (tl (tl mo)) (tr (tl mo) (tr mo (0 : Int32)))))), .val (.int (tk (tl (tl (tl (tl mo)))) (tr (tl (tl (tl mo))) (tr (tl (tl mo)) (tr (tl mo) (tr mo (0 : Int32))))))), .val (.int (nar .boolean (tr (tl (tl (tl (tl mo)))) (tr (tl (tl (tl mo))) (tr (tl (tl mo)) (tr (tl mo) (tr mo (0 : Int32))))))))] [(.int (1 : Int32)), (.int (tk (tl (tl (tl (tl mo)))) (tr (tl (tl (tl mo))) (tr (tl (tl mo)) (tr (tl mo) (tr mo (0 : Int32)))))))]))
            refine OGets.step (fun _ => XS.goto X20.here hx rfl (pc0 := 139) (pc' := 143) rfl (hb hby at_139) (by decide) (by decide)) ?_
            show OGets p e below _ (T20.setTop (mkF m 143 #[.val (.long p0), .second, .val (.long mo), .second, .val (.ref b13), .val (.int (tk mo (0 : Int32))), .val (.int (tk (tl mo) (tr mo (0 : Int32)))), .val (.int (tk (tl (tl mo)) (tr (tl mo) (tr mo (0 : Int32))))), .val (.int (tk (tl (tl (tl mo))) (tr (tl (tl mo)) (tr (tl mo) (tr mo (0 : Int32)))))), .val (.int (tk (tl (tl (tl (tl mo)))) (tr (tl (tl (tl mo))) (tr (tl (tl mo)) (tr (tl mo) (tr mo (0 : Int32))))))), .val (.int (nar .boolean (tr (tl (tl (tl (tl mo)))) (tr (tl (tl (tl mo))) (tr (tl (tl mo)) (tr (tl mo) (tr mo (0 : Int32))))))))] [(.int (1 : Int32)), (.int (tk (tl (tl (tl (tl mo)))) (tr (tl (tl (tl mo))) (tr (tl (tl mo)) (tr (tl mo) (tr mo (0 : Int32)))))))]))
            refine OGets.step (fun _ => XS.icmpNo X20.here hx rfl (hb hby at_143) rfl (teq (own_r5f _ hm0 hc135_30 : (tk (tl (tl (tl (tl mo)))) (tr (tl (tl (tl mo))) (tr (tl (tl mo)) (tr (tl mo) (tr mo (0 : Int32)))))) = (1 : Int32))).2) ?_
            exact K25
        show OGets p e below _ (T20.setTop (mkF m 110 #[.val (.long p0), .second, .val (.long mo), .second, .val (.ref b13), .val (.int (tk mo (0 : Int32))), .val (.int (tk (tl mo) (tr mo (0 : Int32)))), .val (.int (tk (tl (tl mo)) (tr (tl mo) (tr mo (0 : Int32))))), .val (.int (tk (tl (tl (tl mo))) (tr (tl (tl mo)) (tr (tl mo) (tr mo (0 : Int32)))))), .val (.int (tk (tl (tl (tl (tl mo)))) (tr (tl (tl (tl mo))) (tr (tl (tl mo)) (tr (tl mo) (tr mo (0 : Int32))))))), .val (.int (nar .boolean (tr (tl (tl (tl (tl mo)))) (tr (tl (tl (tl mo))) (tr (tl (tl mo)) (tr (tl mo) (tr mo (0 : Int32))))))))] []))
        refine OGets.step (fun _ => XS.iload X20.here hx rfl (hb hby at_110) rfl) ?_
        show OGets p e below _ (T20.setTop (mkF m 112 #[.val (.long p0), .second, .val (.long mo), .second, .val (.ref b13), .val (.int (tk mo (0 : Int32))), .val (.int (tk (tl mo) (tr mo (0 : Int32)))), .val (.int (tk (tl (tl mo)) (tr (tl mo) (tr mo (0 : Int32))))), .val (.int (tk (tl (tl (tl mo))) (tr (tl (tl mo)) (tr (tl mo) (tr mo (0 : Int32)))))), .val (.int (tk (tl (tl (tl (tl mo)))) (tr (tl (tl (tl mo))) (tr (tl (tl mo)) (tr (tl mo) (tr mo (0 : Int32))))))), .val (.int (nar .boolean (tr (tl (tl (tl (tl mo)))) (tr (tl (tl (tl mo))) (tr (tl (tl mo)) (tr (tl mo) (tr mo (0 : Int32))))))))] [(.int (tk (tl (tl (tl mo))) (tr (tl (tl mo)) (tr (tl mo) (tr mo (0 : Int32))))))]))
        refine OGets.step (fun _ => X20.ldc2Long hx hown (mvT hZ (hw _ (List.mem_of_getElem? (i := 26) rfl))) (g := (mkF m 112 #[.val (.long p0), .second, .val (.long mo), .second, .val (.ref b13), .val (.int (tk mo (0 : Int32))), .val (.int (tk (tl mo) (tr mo (0 : Int32)))), .val (.int (tk (tl (tl mo)) (tr (tl mo) (tr mo (0 : Int32))))), .val (.int (tk (tl (tl (tl mo))) (tr (tl (tl mo)) (tr (tl mo) (tr mo (0 : Int32)))))), .val (.int (tk (tl (tl (tl (tl mo)))) (tr (tl (tl (tl mo))) (tr (tl (tl mo)) (tr (tl mo) (tr mo (0 : Int32))))))), .val (.int (nar .boolean (tr (tl (tl (tl (tl mo)))) (tr (tl (tl (tl mo))) (tr (tl (tl mo)) (tr (tl mo) (tr mo (0 : Int32))))))))] [(.int (tk (tl (tl (tl mo))) (tr (tl (tl mo)) (tr (tl mo) (tr mo (0 : Int32))))))])) rfl (hb hby at_112) _) ?_
        show OGets p e below _ (T20.setTop (mkF m 115 #[.val (.long p0), .second, .val (.long mo), .second, .val (.ref b13), .val (.int (tk mo (0 : Int32))), .val (.int (tk (tl mo) (tr mo (0 : Int32)))), .val (.int (tk (tl (tl mo)) (tr (tl mo) (tr mo (0 : Int32))))), .val (.int (tk (tl (tl (tl mo))) (tr (tl (tl mo)) (tr (tl mo) (tr mo (0 : Int32)))))), .val (.int (tk (tl (tl (tl (tl mo)))) (tr (tl (tl (tl mo))) (tr (tl (tl mo)) (tr (tl mo) (tr mo (0 : Int32))))))), .val (.int (nar .boolean (tr (tl (tl (tl (tl mo)))) (tr (tl (tl (tl mo))) (tr (tl (tl mo)) (tr (tl mo) (tr mo (0 : Int32))))))))] [(.long (4 : Int64)), (.int (tk (tl (tl (tl mo))) (tr (tl (tl mo)) (tr (tl mo) (tr mo (0 : Int32))))))]))
        refine OGets.step (fun _ => XS.lloadN X20.here hx rfl (hb hby at_115) rfl) ?_
        show OGets p e below _ (T20.setTop (mkF m 116 #[.val (.long p0), .second, .val (.long mo), .second, .val (.ref b13), .val (.int (tk mo (0 : Int32))), .val (.int (tk (tl mo) (tr mo (0 : Int32)))), .val (.int (tk (tl (tl mo)) (tr (tl mo) (tr mo (0 : Int32))))), .val (.int (tk (tl (tl (tl mo))) (tr (tl (tl mo)) (tr (tl mo) (tr mo (0 : Int32)))))), .val (.int (tk (tl (tl (tl (tl mo)))) (tr (tl (tl (tl mo))) (tr (tl (tl mo)) (tr (tl mo) (tr mo (0 : Int32))))))), .val (.int (nar .boolean (tr (tl (tl (tl (tl mo)))) (tr (tl (tl (tl mo))) (tr (tl (tl mo)) (tr (tl mo) (tr mo (0 : Int32))))))))] [(.long mo), (.long (4 : Int64)), (.int (tk (tl (tl (tl mo))) (tr (tl (tl mo)) (tr (tl mo) (tr mo (0 : Int32))))))]))
        refine OGets.step (fun _ => XS.lcmp X20.here hx rfl (hb hby at_116) rfl) ?_
        show OGets p e below _ (T20.setTop (mkF m 117 #[.val (.long p0), .second, .val (.long mo), .second, .val (.ref b13), .val (.int (tk mo (0 : Int32))), .val (.int (tk (tl mo) (tr mo (0 : Int32)))), .val (.int (tk (tl (tl mo)) (tr (tl mo) (tr mo (0 : Int32))))), .val (.int (tk (tl (tl (tl mo))) (tr (tl (tl mo)) (tr (tl mo) (tr mo (0 : Int32)))))), .val (.int (tk (tl (tl (tl (tl mo)))) (tr (tl (tl (tl mo))) (tr (tl (tl mo)) (tr (tl mo) (tr mo (0 : Int32))))))), .val (.int (nar .boolean (tr (tl (tl (tl (tl mo)))) (tr (tl (tl (tl mo))) (tr (tl (tl mo)) (tr (tl mo) (tr mo (0 : Int32))))))))] [(.int (lcmpW (4 : Int64) mo)), (.int (tk (tl (tl (tl mo))) (tr (tl (tl mo)) (tr (tl mo) (tr mo (0 : Int32))))))]))
        by_cases hc117_33 : mo < (4 : Int64)
        · refine OGets.step (fun _ => XS.ifYes X20.here hx rfl (pc0 := 117) (pc' := 124) rfl (hb hby at_117) rfl ((if0 _ _).trans (tlt ((lw_gt _ _).mpr hc117_33)).2.2.1) (by decide) (by decide)) ?_
          show OGets p e below _ (T20.setTop (mkF m 124 #[.val (.long p0), .second, .val (.long mo), .second, .val (.ref b13), .val (.int (tk mo (0 : Int32))), .val (.int (tk (tl mo) (tr mo (0 : Int32)))), .val (.int (tk (tl (tl mo)) (tr (tl mo) (tr mo (0 : Int32))))), .val (.int (tk (tl (tl (tl mo))) (tr (tl (tl mo)) (tr (tl mo) (tr mo (0 : Int32)))))), .val (.int (tk (tl (tl (tl (tl mo)))) (tr (tl (tl (tl mo))) (tr (tl (tl mo)) (tr (tl mo) (tr mo (0 : Int32))))))), .val (.int (nar .boolean (tr (tl (tl (tl (tl mo)))) (tr (tl (tl (tl mo))) (tr (tl (tl mo)) (tr (tl mo) (tr mo (0 : Int32))))))))] [(.int (tk (tl (tl (tl mo))) (tr (tl (tl mo)) (tr (tl mo) (tr mo (0 : Int32))))))]))
          refine OGets.step (fun _ => XS.iconst X20.here hx rfl (hb hby at_124)) ?_
          show OGets p e below _ (T20.setTop (mkF m 125 #[.val (.long p0), .second, .val (.long mo), .second, .val (.ref b13), .val (.int (tk mo (0 : Int32))), .val (.int (tk (tl mo) (tr mo (0 : Int32)))), .val (.int (tk (tl (tl mo)) (tr (tl mo) (tr mo (0 : Int32))))), .val (.int (tk (tl (tl (tl mo))) (tr (tl (tl mo)) (tr (tl mo) (tr mo (0 : Int32)))))), .val (.int (tk (tl (tl (tl (tl mo)))) (tr (tl (tl (tl mo))) (tr (tl (tl mo)) (tr (tl mo) (tr mo (0 : Int32))))))), .val (.int (nar .boolean (tr (tl (tl (tl (tl mo)))) (tr (tl (tl (tl mo))) (tr (tl (tl mo)) (tr (tl mo) (tr mo (0 : Int32))))))))] [(.int (0 : Int32)), (.int (tk (tl (tl (tl mo))) (tr (tl (tl mo)) (tr (tl mo) (tr mo (0 : Int32))))))]))
          refine OGets.step (fun _ => XS.icmpNo X20.here hx rfl (hb hby at_125) rfl (teq (own_r4t _ hm0 hc117_33 : (tk (tl (tl (tl mo))) (tr (tl (tl mo)) (tr (tl mo) (tr mo (0 : Int32))))) = (0 : Int32))).2) ?_
          exact K24
        · refine OGets.step (fun _ => XS.ifNo X20.here hx rfl (hb hby at_117) rfl ((if0 _ _).trans (flt (fun q => hc117_33 ((lw_gt _ _).mp q))).2.2.1)) ?_
          show OGets p e below _ (T20.setTop (mkF m 120 #[.val (.long p0), .second, .val (.long mo), .second, .val (.ref b13), .val (.int (tk mo (0 : Int32))), .val (.int (tk (tl mo) (tr mo (0 : Int32)))), .val (.int (tk (tl (tl mo)) (tr (tl mo) (tr mo (0 : Int32))))), .val (.int (tk (tl (tl (tl mo))) (tr (tl (tl mo)) (tr (tl mo) (tr mo (0 : Int32)))))), .val (.int (tk (tl (tl (tl (tl mo)))) (tr (tl (tl (tl mo))) (tr (tl (tl mo)) (tr (tl mo) (tr mo (0 : Int32))))))), .val (.int (nar .boolean (tr (tl (tl (tl (tl mo)))) (tr (tl (tl (tl mo))) (tr (tl (tl mo)) (tr (tl mo) (tr mo (0 : Int32))))))))] [(.int (tk (tl (tl (tl mo))) (tr (tl (tl mo)) (tr (tl mo) (tr mo (0 : Int32))))))]))
          refine OGets.step (fun _ => XS.iconst X20.here hx rfl (hb hby at_120)) ?_
          show OGets p e below _ (T20.setTop (mkF m 121 #[.val (.long p0), .second, .val (.long mo), .second, .val (.ref b13), .val (.int (tk mo (0 : Int32))), .val (.int (tk (tl mo) (tr mo (0 : Int32)))), .val (.int (tk (tl (tl mo)) (tr (tl mo) (tr mo (0 : Int32))))), .val (.int (tk (tl (tl (tl mo))) (tr (tl (tl mo)) (tr (tl mo) (tr mo (0 : Int32)))))), .val (.int (tk (tl (tl (tl (tl mo)))) (tr (tl (tl (tl mo))) (tr (tl (tl mo)) (tr (tl mo) (tr mo (0 : Int32))))))), .val (.int (nar .boolean (tr (tl (tl (tl (tl mo)))) (tr (tl (tl (tl mo))) (tr (tl (tl mo)) (tr (tl mo) (tr mo (0 : Int32))))))))] [(.int (1 : Int32)), (.int (tk (tl (tl (tl mo))) (tr (tl (tl mo)) (tr (tl mo) (tr mo (0 : Int32))))))]))
          refine OGets.step (fun _ => XS.goto X20.here hx rfl (pc0 := 121) (pc' := 125) rfl (hb hby at_121) (by decide) (by decide)) ?_
          show OGets p e below _ (T20.setTop (mkF m 125 #[.val (.long p0), .second, .val (.long mo), .second, .val (.ref b13), .val (.int (tk mo (0 : Int32))), .val (.int (tk (tl mo) (tr mo (0 : Int32)))), .val (.int (tk (tl (tl mo)) (tr (tl mo) (tr mo (0 : Int32))))), .val (.int (tk (tl (tl (tl mo))) (tr (tl (tl mo)) (tr (tl mo) (tr mo (0 : Int32)))))), .val (.int (tk (tl (tl (tl (tl mo)))) (tr (tl (tl (tl mo))) (tr (tl (tl mo)) (tr (tl mo) (tr mo (0 : Int32))))))), .val (.int (nar .boolean (tr (tl (tl (tl (tl mo)))) (tr (tl (tl (tl mo))) (tr (tl (tl mo)) (tr (tl mo) (tr mo (0 : Int32))))))))] [(.int (1 : Int32)), (.int (tk (tl (tl (tl mo))) (tr (tl (tl mo)) (tr (tl mo) (tr mo (0 : Int32))))))]))
          refine OGets.step (fun _ => XS.icmpNo X20.here hx rfl (hb hby at_125) rfl (teq (own_r4f _ hm0 hc117_33 : (tk (tl (tl (tl mo))) (tr (tl (tl mo)) (tr (tl mo) (tr mo (0 : Int32))))) = (1 : Int32))).2) ?_
          exact K24
      show OGets p e below _ (T20.setTop (mkF m 92 #[.val (.long p0), .second, .val (.long mo), .second, .val (.ref b13), .val (.int (tk mo (0 : Int32))), .val (.int (tk (tl mo) (tr mo (0 : Int32)))), .val (.int (tk (tl (tl mo)) (tr (tl mo) (tr mo (0 : Int32))))), .val (.int (tk (tl (tl (tl mo))) (tr (tl (tl mo)) (tr (tl mo) (tr mo (0 : Int32)))))), .val (.int (tk (tl (tl (tl (tl mo)))) (tr (tl (tl (tl mo))) (tr (tl (tl mo)) (tr (tl mo) (tr mo (0 : Int32))))))), .val (.int (nar .boolean (tr (tl (tl (tl (tl mo)))) (tr (tl (tl (tl mo))) (tr (tl (tl mo)) (tr (tl mo) (tr mo (0 : Int32))))))))] []))
      refine OGets.step (fun _ => XS.iload X20.here hx rfl (hb hby at_92) rfl) ?_
      show OGets p e below _ (T20.setTop (mkF m 94 #[.val (.long p0), .second, .val (.long mo), .second, .val (.ref b13), .val (.int (tk mo (0 : Int32))), .val (.int (tk (tl mo) (tr mo (0 : Int32)))), .val (.int (tk (tl (tl mo)) (tr (tl mo) (tr mo (0 : Int32))))), .val (.int (tk (tl (tl (tl mo))) (tr (tl (tl mo)) (tr (tl mo) (tr mo (0 : Int32)))))), .val (.int (tk (tl (tl (tl (tl mo)))) (tr (tl (tl (tl mo))) (tr (tl (tl mo)) (tr (tl mo) (tr mo (0 : Int32))))))), .val (.int (nar .boolean (tr (tl (tl (tl (tl mo)))) (tr (tl (tl (tl mo))) (tr (tl (tl mo)) (tr (tl mo) (tr mo (0 : Int32))))))))] [(.int (tk (tl (tl mo)) (tr (tl mo) (tr mo (0 : Int32)))))]))
      refine OGets.step (fun _ => X20.ldc2Long hx hown (mvT hZ (hw _ (List.mem_of_getElem? (i := 25) rfl))) (g := (mkF m 94 #[.val (.long p0), .second, .val (.long mo), .second, .val (.ref b13), .val (.int (tk mo (0 : Int32))), .val (.int (tk (tl mo) (tr mo (0 : Int32)))), .val (.int (tk (tl (tl mo)) (tr (tl mo) (tr mo (0 : Int32))))), .val (.int (tk (tl (tl (tl mo))) (tr (tl (tl mo)) (tr (tl mo) (tr mo (0 : Int32)))))), .val (.int (tk (tl (tl (tl (tl mo)))) (tr (tl (tl (tl mo))) (tr (tl (tl mo)) (tr (tl mo) (tr mo (0 : Int32))))))), .val (.int (nar .boolean (tr (tl (tl (tl (tl mo)))) (tr (tl (tl (tl mo))) (tr (tl (tl mo)) (tr (tl mo) (tr mo (0 : Int32))))))))] [(.int (tk (tl (tl mo)) (tr (tl mo) (tr mo (0 : Int32)))))])) rfl (hb hby at_94) _) ?_
      show OGets p e below _ (T20.setTop (mkF m 97 #[.val (.long p0), .second, .val (.long mo), .second, .val (.ref b13), .val (.int (tk mo (0 : Int32))), .val (.int (tk (tl mo) (tr mo (0 : Int32)))), .val (.int (tk (tl (tl mo)) (tr (tl mo) (tr mo (0 : Int32))))), .val (.int (tk (tl (tl (tl mo))) (tr (tl (tl mo)) (tr (tl mo) (tr mo (0 : Int32)))))), .val (.int (tk (tl (tl (tl (tl mo)))) (tr (tl (tl (tl mo))) (tr (tl (tl mo)) (tr (tl mo) (tr mo (0 : Int32))))))), .val (.int (nar .boolean (tr (tl (tl (tl (tl mo)))) (tr (tl (tl (tl mo))) (tr (tl (tl mo)) (tr (tl mo) (tr mo (0 : Int32))))))))] [(.long (3 : Int64)), (.int (tk (tl (tl mo)) (tr (tl mo) (tr mo (0 : Int32)))))]))
      refine OGets.step (fun _ => XS.lloadN X20.here hx rfl (hb hby at_97) rfl) ?_
      show OGets p e below _ (T20.setTop (mkF m 98 #[.val (.long p0), .second, .val (.long mo), .second, .val (.ref b13), .val (.int (tk mo (0 : Int32))), .val (.int (tk (tl mo) (tr mo (0 : Int32)))), .val (.int (tk (tl (tl mo)) (tr (tl mo) (tr mo (0 : Int32))))), .val (.int (tk (tl (tl (tl mo))) (tr (tl (tl mo)) (tr (tl mo) (tr mo (0 : Int32)))))), .val (.int (tk (tl (tl (tl (tl mo)))) (tr (tl (tl (tl mo))) (tr (tl (tl mo)) (tr (tl mo) (tr mo (0 : Int32))))))), .val (.int (nar .boolean (tr (tl (tl (tl (tl mo)))) (tr (tl (tl (tl mo))) (tr (tl (tl mo)) (tr (tl mo) (tr mo (0 : Int32))))))))] [(.long mo), (.long (3 : Int64)), (.int (tk (tl (tl mo)) (tr (tl mo) (tr mo (0 : Int32)))))]))
      refine OGets.step (fun _ => XS.lcmp X20.here hx rfl (hb hby at_98) rfl) ?_
      show OGets p e below _ (T20.setTop (mkF m 99 #[.val (.long p0), .second, .val (.long mo), .second, .val (.ref b13), .val (.int (tk mo (0 : Int32))), .val (.int (tk (tl mo) (tr mo (0 : Int32)))), .val (.int (tk (tl (tl mo)) (tr (tl mo) (tr mo (0 : Int32))))), .val (.int (tk (tl (tl (tl mo))) (tr (tl (tl mo)) (tr (tl mo) (tr mo (0 : Int32)))))), .val (.int (tk (tl (tl (tl (tl mo)))) (tr (tl (tl (tl mo))) (tr (tl (tl mo)) (tr (tl mo) (tr mo (0 : Int32))))))), .val (.int (nar .boolean (tr (tl (tl (tl (tl mo)))) (tr (tl (tl (tl mo))) (tr (tl (tl mo)) (tr (tl mo) (tr mo (0 : Int32))))))))] [(.int (lcmpW (3 : Int64) mo)), (.int (tk (tl (tl mo)) (tr (tl mo) (tr mo (0 : Int32)))))]))
      by_cases hc99_36 : mo < (3 : Int64)
      · refine OGets.step (fun _ => XS.ifYes X20.here hx rfl (pc0 := 99) (pc' := 106) rfl (hb hby at_99) rfl ((if0 _ _).trans (tlt ((lw_gt _ _).mpr hc99_36)).2.2.1) (by decide) (by decide)) ?_
        show OGets p e below _ (T20.setTop (mkF m 106 #[.val (.long p0), .second, .val (.long mo), .second, .val (.ref b13), .val (.int (tk mo (0 : Int32))), .val (.int (tk (tl mo) (tr mo (0 : Int32)))), .val (.int (tk (tl (tl mo)) (tr (tl mo) (tr mo (0 : Int32))))), .val (.int (tk (tl (tl (tl mo))) (tr (tl (tl mo)) (tr (tl mo) (tr mo (0 : Int32)))))), .val (.int (tk (tl (tl (tl (tl mo)))) (tr (tl (tl (tl mo))) (tr (tl (tl mo)) (tr (tl mo) (tr mo (0 : Int32))))))), .val (.int (nar .boolean (tr (tl (tl (tl (tl mo)))) (tr (tl (tl (tl mo))) (tr (tl (tl mo)) (tr (tl mo) (tr mo (0 : Int32))))))))] [(.int (tk (tl (tl mo)) (tr (tl mo) (tr mo (0 : Int32)))))]))
        refine OGets.step (fun _ => XS.iconst X20.here hx rfl (hb hby at_106)) ?_
        show OGets p e below _ (T20.setTop (mkF m 107 #[.val (.long p0), .second, .val (.long mo), .second, .val (.ref b13), .val (.int (tk mo (0 : Int32))), .val (.int (tk (tl mo) (tr mo (0 : Int32)))), .val (.int (tk (tl (tl mo)) (tr (tl mo) (tr mo (0 : Int32))))), .val (.int (tk (tl (tl (tl mo))) (tr (tl (tl mo)) (tr (tl mo) (tr mo (0 : Int32)))))), .val (.int (tk (tl (tl (tl (tl mo)))) (tr (tl (tl (tl mo))) (tr (tl (tl mo)) (tr (tl mo) (tr mo (0 : Int32))))))), .val (.int (nar .boolean (tr (tl (tl (tl (tl mo)))) (tr (tl (tl (tl mo))) (tr (tl (tl mo)) (tr (tl mo) (tr mo (0 : Int32))))))))] [(.int (0 : Int32)), (.int (tk (tl (tl mo)) (tr (tl mo) (tr mo (0 : Int32)))))]))
        refine OGets.step (fun _ => XS.icmpNo X20.here hx rfl (hb hby at_107) rfl (teq (own_r3t _ hm0 hc99_36 : (tk (tl (tl mo)) (tr (tl mo) (tr mo (0 : Int32)))) = (0 : Int32))).2) ?_
        exact K23
      · refine OGets.step (fun _ => XS.ifNo X20.here hx rfl (hb hby at_99) rfl ((if0 _ _).trans (flt (fun q => hc99_36 ((lw_gt _ _).mp q))).2.2.1)) ?_
        show OGets p e below _ (T20.setTop (mkF m 102 #[.val (.long p0), .second, .val (.long mo), .second, .val (.ref b13), .val (.int (tk mo (0 : Int32))), .val (.int (tk (tl mo) (tr mo (0 : Int32)))), .val (.int (tk (tl (tl mo)) (tr (tl mo) (tr mo (0 : Int32))))), .val (.int (tk (tl (tl (tl mo))) (tr (tl (tl mo)) (tr (tl mo) (tr mo (0 : Int32)))))), .val (.int (tk (tl (tl (tl (tl mo)))) (tr (tl (tl (tl mo))) (tr (tl (tl mo)) (tr (tl mo) (tr mo (0 : Int32))))))), .val (.int (nar .boolean (tr (tl (tl (tl (tl mo)))) (tr (tl (tl (tl mo))) (tr (tl (tl mo)) (tr (tl mo) (tr mo (0 : Int32))))))))] [(.int (tk (tl (tl mo)) (tr (tl mo) (tr mo (0 : Int32)))))]))
        refine OGets.step (fun _ => XS.iconst X20.here hx rfl (hb hby at_102)) ?_
        show OGets p e below _ (T20.setTop (mkF m 103 #[.val (.long p0), .second, .val (.long mo), .second, .val (.ref b13), .val (.int (tk mo (0 : Int32))), .val (.int (tk (tl mo) (tr mo (0 : Int32)))), .val (.int (tk (tl (tl mo)) (tr (tl mo) (tr mo (0 : Int32))))), .val (.int (tk (tl (tl (tl mo))) (tr (tl (tl mo)) (tr (tl mo) (tr mo (0 : Int32)))))), .val (.int (tk (tl (tl (tl (tl mo)))) (tr (tl (tl (tl mo))) (tr (tl (tl mo)) (tr (tl mo) (tr mo (0 : Int32))))))), .val (.int (nar .boolean (tr (tl (tl (tl (tl mo)))) (tr (tl (tl (tl mo))) (tr (tl (tl mo)) (tr (tl mo) (tr mo (0 : Int32))))))))] [(.int (1 : Int32)), (.int (tk (tl (tl mo)) (tr (tl mo) (tr mo (0 : Int32)))))]))
        refine OGets.step (fun _ => XS.goto X20.here hx rfl (pc0 := 103) (pc' := 107) rfl (hb hby at_103) (by decide) (by decide)) ?_
        show OGets p e below _ (T20.setTop (mkF m 107 #[.val (.long p0), .second, .val (.long mo), .second, .val (.ref b13), .val (.int (tk mo (0 : Int32))), .val (.int (tk (tl mo) (tr mo (0 : Int32)))), .val (.int (tk (tl (tl mo)) (tr (tl mo) (tr mo (0 : Int32))))), .val (.int (tk (tl (tl (tl mo))) (tr (tl (tl mo)) (tr (tl mo) (tr mo (0 : Int32)))))), .val (.int (tk (tl (tl (tl (tl mo)))) (tr (tl (tl (tl mo))) (tr (tl (tl mo)) (tr (tl mo) (tr mo (0 : Int32))))))), .val (.int (nar .boolean (tr (tl (tl (tl (tl mo)))) (tr (tl (tl (tl mo))) (tr (tl (tl mo)) (tr (tl mo) (tr mo (0 : Int32))))))))] [(.int (1 : Int32)), (.int (tk (tl (tl mo)) (tr (tl mo) (tr mo (0 : Int32)))))]))
        refine OGets.step (fun _ => XS.icmpNo X20.here hx rfl (hb hby at_107) rfl (teq (own_r3f _ hm0 hc99_36 : (tk (tl (tl mo)) (tr (tl mo) (tr mo (0 : Int32)))) = (1 : Int32))).2) ?_
        exact K23
    show OGets p e below _ (T20.setTop (mkF m 74 #[.val (.long p0), .second, .val (.long mo), .second, .val (.ref b13), .val (.int (tk mo (0 : Int32))), .val (.int (tk (tl mo) (tr mo (0 : Int32)))), .val (.int (tk (tl (tl mo)) (tr (tl mo) (tr mo (0 : Int32))))), .val (.int (tk (tl (tl (tl mo))) (tr (tl (tl mo)) (tr (tl mo) (tr mo (0 : Int32)))))), .val (.int (tk (tl (tl (tl (tl mo)))) (tr (tl (tl (tl mo))) (tr (tl (tl mo)) (tr (tl mo) (tr mo (0 : Int32))))))), .val (.int (nar .boolean (tr (tl (tl (tl (tl mo)))) (tr (tl (tl (tl mo))) (tr (tl (tl mo)) (tr (tl mo) (tr mo (0 : Int32))))))))] []))
    refine OGets.step (fun _ => XS.iload X20.here hx rfl (hb hby at_74) rfl) ?_
    show OGets p e below _ (T20.setTop (mkF m 76 #[.val (.long p0), .second, .val (.long mo), .second, .val (.ref b13), .val (.int (tk mo (0 : Int32))), .val (.int (tk (tl mo) (tr mo (0 : Int32)))), .val (.int (tk (tl (tl mo)) (tr (tl mo) (tr mo (0 : Int32))))), .val (.int (tk (tl (tl (tl mo))) (tr (tl (tl mo)) (tr (tl mo) (tr mo (0 : Int32)))))), .val (.int (tk (tl (tl (tl (tl mo)))) (tr (tl (tl (tl mo))) (tr (tl (tl mo)) (tr (tl mo) (tr mo (0 : Int32))))))), .val (.int (nar .boolean (tr (tl (tl (tl (tl mo)))) (tr (tl (tl (tl mo))) (tr (tl (tl mo)) (tr (tl mo) (tr mo (0 : Int32))))))))] [(.int (tk (tl mo) (tr mo (0 : Int32))))]))
    refine OGets.step (fun _ => X20.ldc2Long hx hown (mvT hZ (hw _ (List.mem_of_getElem? (i := 24) rfl))) (g := (mkF m 76 #[.val (.long p0), .second, .val (.long mo), .second, .val (.ref b13), .val (.int (tk mo (0 : Int32))), .val (.int (tk (tl mo) (tr mo (0 : Int32)))), .val (.int (tk (tl (tl mo)) (tr (tl mo) (tr mo (0 : Int32))))), .val (.int (tk (tl (tl (tl mo))) (tr (tl (tl mo)) (tr (tl mo) (tr mo (0 : Int32)))))), .val (.int (tk (tl (tl (tl (tl mo)))) (tr (tl (tl (tl mo))) (tr (tl (tl mo)) (tr (tl mo) (tr mo (0 : Int32))))))), .val (.int (nar .boolean (tr (tl (tl (tl (tl mo)))) (tr (tl (tl (tl mo))) (tr (tl (tl mo)) (tr (tl mo) (tr mo (0 : Int32))))))))] [(.int (tk (tl mo) (tr mo (0 : Int32))))])) rfl (hb hby at_76) _) ?_
    show OGets p e below _ (T20.setTop (mkF m 79 #[.val (.long p0), .second, .val (.long mo), .second, .val (.ref b13), .val (.int (tk mo (0 : Int32))), .val (.int (tk (tl mo) (tr mo (0 : Int32)))), .val (.int (tk (tl (tl mo)) (tr (tl mo) (tr mo (0 : Int32))))), .val (.int (tk (tl (tl (tl mo))) (tr (tl (tl mo)) (tr (tl mo) (tr mo (0 : Int32)))))), .val (.int (tk (tl (tl (tl (tl mo)))) (tr (tl (tl (tl mo))) (tr (tl (tl mo)) (tr (tl mo) (tr mo (0 : Int32))))))), .val (.int (nar .boolean (tr (tl (tl (tl (tl mo)))) (tr (tl (tl (tl mo))) (tr (tl (tl mo)) (tr (tl mo) (tr mo (0 : Int32))))))))] [(.long (2 : Int64)), (.int (tk (tl mo) (tr mo (0 : Int32))))]))
    refine OGets.step (fun _ => XS.lloadN X20.here hx rfl (hb hby at_79) rfl) ?_
    show OGets p e below _ (T20.setTop (mkF m 80 #[.val (.long p0), .second, .val (.long mo), .second, .val (.ref b13), .val (.int (tk mo (0 : Int32))), .val (.int (tk (tl mo) (tr mo (0 : Int32)))), .val (.int (tk (tl (tl mo)) (tr (tl mo) (tr mo (0 : Int32))))), .val (.int (tk (tl (tl (tl mo))) (tr (tl (tl mo)) (tr (tl mo) (tr mo (0 : Int32)))))), .val (.int (tk (tl (tl (tl (tl mo)))) (tr (tl (tl (tl mo))) (tr (tl (tl mo)) (tr (tl mo) (tr mo (0 : Int32))))))), .val (.int (nar .boolean (tr (tl (tl (tl (tl mo)))) (tr (tl (tl (tl mo))) (tr (tl (tl mo)) (tr (tl mo) (tr mo (0 : Int32))))))))] [(.long mo), (.long (2 : Int64)), (.int (tk (tl mo) (tr mo (0 : Int32))))]))
    refine OGets.step (fun _ => XS.lcmp X20.here hx rfl (hb hby at_80) rfl) ?_
    show OGets p e below _ (T20.setTop (mkF m 81 #[.val (.long p0), .second, .val (.long mo), .second, .val (.ref b13), .val (.int (tk mo (0 : Int32))), .val (.int (tk (tl mo) (tr mo (0 : Int32)))), .val (.int (tk (tl (tl mo)) (tr (tl mo) (tr mo (0 : Int32))))), .val (.int (tk (tl (tl (tl mo))) (tr (tl (tl mo)) (tr (tl mo) (tr mo (0 : Int32)))))), .val (.int (tk (tl (tl (tl (tl mo)))) (tr (tl (tl (tl mo))) (tr (tl (tl mo)) (tr (tl mo) (tr mo (0 : Int32))))))), .val (.int (nar .boolean (tr (tl (tl (tl (tl mo)))) (tr (tl (tl (tl mo))) (tr (tl (tl mo)) (tr (tl mo) (tr mo (0 : Int32))))))))] [(.int (lcmpW (2 : Int64) mo)), (.int (tk (tl mo) (tr mo (0 : Int32))))]))
    by_cases hc81_39 : mo < (2 : Int64)
    · refine OGets.step (fun _ => XS.ifYes X20.here hx rfl (pc0 := 81) (pc' := 88) rfl (hb hby at_81) rfl ((if0 _ _).trans (tlt ((lw_gt _ _).mpr hc81_39)).2.2.1) (by decide) (by decide)) ?_
      show OGets p e below _ (T20.setTop (mkF m 88 #[.val (.long p0), .second, .val (.long mo), .second, .val (.ref b13), .val (.int (tk mo (0 : Int32))), .val (.int (tk (tl mo) (tr mo (0 : Int32)))), .val (.int (tk (tl (tl mo)) (tr (tl mo) (tr mo (0 : Int32))))), .val (.int (tk (tl (tl (tl mo))) (tr (tl (tl mo)) (tr (tl mo) (tr mo (0 : Int32)))))), .val (.int (tk (tl (tl (tl (tl mo)))) (tr (tl (tl (tl mo))) (tr (tl (tl mo)) (tr (tl mo) (tr mo (0 : Int32))))))), .val (.int (nar .boolean (tr (tl (tl (tl (tl mo)))) (tr (tl (tl (tl mo))) (tr (tl (tl mo)) (tr (tl mo) (tr mo (0 : Int32))))))))] [(.int (tk (tl mo) (tr mo (0 : Int32))))]))
      refine OGets.step (fun _ => XS.iconst X20.here hx rfl (hb hby at_88)) ?_
      show OGets p e below _ (T20.setTop (mkF m 89 #[.val (.long p0), .second, .val (.long mo), .second, .val (.ref b13), .val (.int (tk mo (0 : Int32))), .val (.int (tk (tl mo) (tr mo (0 : Int32)))), .val (.int (tk (tl (tl mo)) (tr (tl mo) (tr mo (0 : Int32))))), .val (.int (tk (tl (tl (tl mo))) (tr (tl (tl mo)) (tr (tl mo) (tr mo (0 : Int32)))))), .val (.int (tk (tl (tl (tl (tl mo)))) (tr (tl (tl (tl mo))) (tr (tl (tl mo)) (tr (tl mo) (tr mo (0 : Int32))))))), .val (.int (nar .boolean (tr (tl (tl (tl (tl mo)))) (tr (tl (tl (tl mo))) (tr (tl (tl mo)) (tr (tl mo) (tr mo (0 : Int32))))))))] [(.int (0 : Int32)), (.int (tk (tl mo) (tr mo (0 : Int32))))]))
      refine OGets.step (fun _ => XS.icmpNo X20.here hx rfl (hb hby at_89) rfl (teq (own_r2t _ hm0 hc81_39 : (tk (tl mo) (tr mo (0 : Int32))) = (0 : Int32))).2) ?_
      exact K22
    · refine OGets.step (fun _ => XS.ifNo X20.here hx rfl (hb hby at_81) rfl ((if0 _ _).trans (flt (fun q => hc81_39 ((lw_gt _ _).mp q))).2.2.1)) ?_
      show OGets p e below _ (T20.setTop (mkF m 84 #[.val (.long p0), .second, .val (.long mo), .second, .val (.ref b13), .val (.int (tk mo (0 : Int32))), .val (.int (tk (tl mo) (tr mo (0 : Int32)))), .val (.int (tk (tl (tl mo)) (tr (tl mo) (tr mo (0 : Int32))))), .val (.int (tk (tl (tl (tl mo))) (tr (tl (tl mo)) (tr (tl mo) (tr mo (0 : Int32)))))), .val (.int (tk (tl (tl (tl (tl mo)))) (tr (tl (tl (tl mo))) (tr (tl (tl mo)) (tr (tl mo) (tr mo (0 : Int32))))))), .val (.int (nar .boolean (tr (tl (tl (tl (tl mo)))) (tr (tl (tl (tl mo))) (tr (tl (tl mo)) (tr (tl mo) (tr mo (0 : Int32))))))))] [(.int (tk (tl mo) (tr mo (0 : Int32))))]))
      refine OGets.step (fun _ => XS.iconst X20.here hx rfl (hb hby at_84)) ?_
      show OGets p e below _ (T20.setTop (mkF m 85 #[.val (.long p0), .second, .val (.long mo), .second, .val (.ref b13), .val (.int (tk mo (0 : Int32))), .val (.int (tk (tl mo) (tr mo (0 : Int32)))), .val (.int (tk (tl (tl mo)) (tr (tl mo) (tr mo (0 : Int32))))), .val (.int (tk (tl (tl (tl mo))) (tr (tl (tl mo)) (tr (tl mo) (tr mo (0 : Int32)))))), .val (.int (tk (tl (tl (tl (tl mo)))) (tr (tl (tl (tl mo))) (tr (tl (tl mo)) (tr (tl mo) (tr mo (0 : Int32))))))), .val (.int (nar .boolean (tr (tl (tl (tl (tl mo)))) (tr (tl (tl (tl mo))) (tr (tl (tl mo)) (tr (tl mo) (tr mo (0 : Int32))))))))] [(.int (1 : Int32)), (.int (tk (tl mo) (tr mo (0 : Int32))))]))
      refine OGets.step (fun _ => XS.goto X20.here hx rfl (pc0 := 85) (pc' := 89) rfl (hb hby at_85) (by decide) (by decide)) ?_
      show OGets p e below _ (T20.setTop (mkF m 89 #[.val (.long p0), .second, .val (.long mo), .second, .val (.ref b13), .val (.int (tk mo (0 : Int32))), .val (.int (tk (tl mo) (tr mo (0 : Int32)))), .val (.int (tk (tl (tl mo)) (tr (tl mo) (tr mo (0 : Int32))))), .val (.int (tk (tl (tl (tl mo))) (tr (tl (tl mo)) (tr (tl mo) (tr mo (0 : Int32)))))), .val (.int (tk (tl (tl (tl (tl mo)))) (tr (tl (tl (tl mo))) (tr (tl (tl mo)) (tr (tl mo) (tr mo (0 : Int32))))))), .val (.int (nar .boolean (tr (tl (tl (tl (tl mo)))) (tr (tl (tl (tl mo))) (tr (tl (tl mo)) (tr (tl mo) (tr mo (0 : Int32))))))))] [(.int (1 : Int32)), (.int (tk (tl mo) (tr mo (0 : Int32))))]))
      refine OGets.step (fun _ => XS.icmpNo X20.here hx rfl (hb hby at_89) rfl (teq (own_r2f _ hm0 hc81_39 : (tk (tl mo) (tr mo (0 : Int32))) = (1 : Int32))).2) ?_
      exact K22
  show OGets p e below _ (T20.setTop (mkF m 58 #[.val (.long p0), .second, .val (.long mo), .second, .val (.ref b13), .val (.int (tk mo (0 : Int32))), .val (.int (tk (tl mo) (tr mo (0 : Int32)))), .val (.int (tk (tl (tl mo)) (tr (tl mo) (tr mo (0 : Int32))))), .val (.int (tk (tl (tl (tl mo))) (tr (tl (tl mo)) (tr (tl mo) (tr mo (0 : Int32)))))), .val (.int (tk (tl (tl (tl (tl mo)))) (tr (tl (tl (tl mo))) (tr (tl (tl mo)) (tr (tl mo) (tr mo (0 : Int32))))))), .val (.int (nar .boolean (tr (tl (tl (tl (tl mo)))) (tr (tl (tl (tl mo))) (tr (tl (tl mo)) (tr (tl mo) (tr mo (0 : Int32))))))))] []))
  refine OGets.step (fun _ => XS.iload X20.here hx rfl (hb hby at_58) rfl) ?_
  show OGets p e below _ (T20.setTop (mkF m 60 #[.val (.long p0), .second, .val (.long mo), .second, .val (.ref b13), .val (.int (tk mo (0 : Int32))), .val (.int (tk (tl mo) (tr mo (0 : Int32)))), .val (.int (tk (tl (tl mo)) (tr (tl mo) (tr mo (0 : Int32))))), .val (.int (tk (tl (tl (tl mo))) (tr (tl (tl mo)) (tr (tl mo) (tr mo (0 : Int32)))))), .val (.int (tk (tl (tl (tl (tl mo)))) (tr (tl (tl (tl mo))) (tr (tl (tl mo)) (tr (tl mo) (tr mo (0 : Int32))))))), .val (.int (nar .boolean (tr (tl (tl (tl (tl mo)))) (tr (tl (tl (tl mo))) (tr (tl (tl mo)) (tr (tl mo) (tr mo (0 : Int32))))))))] [(.int (tk mo (0 : Int32)))]))
  refine OGets.step (fun _ => XS.lconst X20.here hx rfl (hb hby at_60)) ?_
  show OGets p e below _ (T20.setTop (mkF m 61 #[.val (.long p0), .second, .val (.long mo), .second, .val (.ref b13), .val (.int (tk mo (0 : Int32))), .val (.int (tk (tl mo) (tr mo (0 : Int32)))), .val (.int (tk (tl (tl mo)) (tr (tl mo) (tr mo (0 : Int32))))), .val (.int (tk (tl (tl (tl mo))) (tr (tl (tl mo)) (tr (tl mo) (tr mo (0 : Int32)))))), .val (.int (tk (tl (tl (tl (tl mo)))) (tr (tl (tl (tl mo))) (tr (tl (tl mo)) (tr (tl mo) (tr mo (0 : Int32))))))), .val (.int (nar .boolean (tr (tl (tl (tl (tl mo)))) (tr (tl (tl (tl mo))) (tr (tl (tl mo)) (tr (tl mo) (tr mo (0 : Int32))))))))] [(.long (1 : Int64)), (.int (tk mo (0 : Int32)))]))
  refine OGets.step (fun _ => XS.lloadN X20.here hx rfl (hb hby at_61) rfl) ?_
  show OGets p e below _ (T20.setTop (mkF m 62 #[.val (.long p0), .second, .val (.long mo), .second, .val (.ref b13), .val (.int (tk mo (0 : Int32))), .val (.int (tk (tl mo) (tr mo (0 : Int32)))), .val (.int (tk (tl (tl mo)) (tr (tl mo) (tr mo (0 : Int32))))), .val (.int (tk (tl (tl (tl mo))) (tr (tl (tl mo)) (tr (tl mo) (tr mo (0 : Int32)))))), .val (.int (tk (tl (tl (tl (tl mo)))) (tr (tl (tl (tl mo))) (tr (tl (tl mo)) (tr (tl mo) (tr mo (0 : Int32))))))), .val (.int (nar .boolean (tr (tl (tl (tl (tl mo)))) (tr (tl (tl (tl mo))) (tr (tl (tl mo)) (tr (tl mo) (tr mo (0 : Int32))))))))] [(.long mo), (.long (1 : Int64)), (.int (tk mo (0 : Int32)))]))
  refine OGets.step (fun _ => XS.lcmp X20.here hx rfl (hb hby at_62) rfl) ?_
  show OGets p e below _ (T20.setTop (mkF m 63 #[.val (.long p0), .second, .val (.long mo), .second, .val (.ref b13), .val (.int (tk mo (0 : Int32))), .val (.int (tk (tl mo) (tr mo (0 : Int32)))), .val (.int (tk (tl (tl mo)) (tr (tl mo) (tr mo (0 : Int32))))), .val (.int (tk (tl (tl (tl mo))) (tr (tl (tl mo)) (tr (tl mo) (tr mo (0 : Int32)))))), .val (.int (tk (tl (tl (tl (tl mo)))) (tr (tl (tl (tl mo))) (tr (tl (tl mo)) (tr (tl mo) (tr mo (0 : Int32))))))), .val (.int (nar .boolean (tr (tl (tl (tl (tl mo)))) (tr (tl (tl (tl mo))) (tr (tl (tl mo)) (tr (tl mo) (tr mo (0 : Int32))))))))] [(.int (lcmpW (1 : Int64) mo)), (.int (tk mo (0 : Int32)))]))
  by_cases hc63_42 : mo < (1 : Int64)
  · refine OGets.step (fun _ => XS.ifYes X20.here hx rfl (pc0 := 63) (pc' := 70) rfl (hb hby at_63) rfl ((if0 _ _).trans (tlt ((lw_gt _ _).mpr hc63_42)).2.2.1) (by decide) (by decide)) ?_
    show OGets p e below _ (T20.setTop (mkF m 70 #[.val (.long p0), .second, .val (.long mo), .second, .val (.ref b13), .val (.int (tk mo (0 : Int32))), .val (.int (tk (tl mo) (tr mo (0 : Int32)))), .val (.int (tk (tl (tl mo)) (tr (tl mo) (tr mo (0 : Int32))))), .val (.int (tk (tl (tl (tl mo))) (tr (tl (tl mo)) (tr (tl mo) (tr mo (0 : Int32)))))), .val (.int (tk (tl (tl (tl (tl mo)))) (tr (tl (tl (tl mo))) (tr (tl (tl mo)) (tr (tl mo) (tr mo (0 : Int32))))))), .val (.int (nar .boolean (tr (tl (tl (tl (tl mo)))) (tr (tl (tl (tl mo))) (tr (tl (tl mo)) (tr (tl mo) (tr mo (0 : Int32))))))))] [(.int (tk mo (0 : Int32)))]))
    refine OGets.step (fun _ => XS.iconst X20.here hx rfl (hb hby at_70)) ?_
    show OGets p e below _ (T20.setTop (mkF m 71 #[.val (.long p0), .second, .val (.long mo), .second, .val (.ref b13), .val (.int (tk mo (0 : Int32))), .val (.int (tk (tl mo) (tr mo (0 : Int32)))), .val (.int (tk (tl (tl mo)) (tr (tl mo) (tr mo (0 : Int32))))), .val (.int (tk (tl (tl (tl mo))) (tr (tl (tl mo)) (tr (tl mo) (tr mo (0 : Int32)))))), .val (.int (tk (tl (tl (tl (tl mo)))) (tr (tl (tl (tl mo))) (tr (tl (tl mo)) (tr (tl mo) (tr mo (0 : Int32))))))), .val (.int (nar .boolean (tr (tl (tl (tl (tl mo)))) (tr (tl (tl (tl mo))) (tr (tl (tl mo)) (tr (tl mo) (tr mo (0 : Int32))))))))] [(.int (0 : Int32)), (.int (tk mo (0 : Int32)))]))
    refine OGets.step (fun _ => XS.icmpNo X20.here hx rfl (hb hby at_71) rfl (teq (own_r1t _ hm0 hc63_42 : (tk mo (0 : Int32)) = (0 : Int32))).2) ?_
    exact K21
  · refine OGets.step (fun _ => XS.ifNo X20.here hx rfl (hb hby at_63) rfl ((if0 _ _).trans (flt (fun q => hc63_42 ((lw_gt _ _).mp q))).2.2.1)) ?_
    show OGets p e below _ (T20.setTop (mkF m 66 #[.val (.long p0), .second, .val (.long mo), .second, .val (.ref b13), .val (.int (tk mo (0 : Int32))), .val (.int (tk (tl mo) (tr mo (0 : Int32)))), .val (.int (tk (tl (tl mo)) (tr (tl mo) (tr mo (0 : Int32))))), .val (.int (tk (tl (tl (tl mo))) (tr (tl (tl mo)) (tr (tl mo) (tr mo (0 : Int32)))))), .val (.int (tk (tl (tl (tl (tl mo)))) (tr (tl (tl (tl mo))) (tr (tl (tl mo)) (tr (tl mo) (tr mo (0 : Int32))))))), .val (.int (nar .boolean (tr (tl (tl (tl (tl mo)))) (tr (tl (tl (tl mo))) (tr (tl (tl mo)) (tr (tl mo) (tr mo (0 : Int32))))))))] [(.int (tk mo (0 : Int32)))]))
    refine OGets.step (fun _ => XS.iconst X20.here hx rfl (hb hby at_66)) ?_
    show OGets p e below _ (T20.setTop (mkF m 67 #[.val (.long p0), .second, .val (.long mo), .second, .val (.ref b13), .val (.int (tk mo (0 : Int32))), .val (.int (tk (tl mo) (tr mo (0 : Int32)))), .val (.int (tk (tl (tl mo)) (tr (tl mo) (tr mo (0 : Int32))))), .val (.int (tk (tl (tl (tl mo))) (tr (tl (tl mo)) (tr (tl mo) (tr mo (0 : Int32)))))), .val (.int (tk (tl (tl (tl (tl mo)))) (tr (tl (tl (tl mo))) (tr (tl (tl mo)) (tr (tl mo) (tr mo (0 : Int32))))))), .val (.int (nar .boolean (tr (tl (tl (tl (tl mo)))) (tr (tl (tl (tl mo))) (tr (tl (tl mo)) (tr (tl mo) (tr mo (0 : Int32))))))))] [(.int (1 : Int32)), (.int (tk mo (0 : Int32)))]))
    refine OGets.step (fun _ => XS.goto X20.here hx rfl (pc0 := 67) (pc' := 71) rfl (hb hby at_67) (by decide) (by decide)) ?_
    show OGets p e below _ (T20.setTop (mkF m 71 #[.val (.long p0), .second, .val (.long mo), .second, .val (.ref b13), .val (.int (tk mo (0 : Int32))), .val (.int (tk (tl mo) (tr mo (0 : Int32)))), .val (.int (tk (tl (tl mo)) (tr (tl mo) (tr mo (0 : Int32))))), .val (.int (tk (tl (tl (tl mo))) (tr (tl (tl mo)) (tr (tl mo) (tr mo (0 : Int32)))))), .val (.int (tk (tl (tl (tl (tl mo)))) (tr (tl (tl (tl mo))) (tr (tl (tl mo)) (tr (tl mo) (tr mo (0 : Int32))))))), .val (.int (nar .boolean (tr (tl (tl (tl (tl mo)))) (tr (tl (tl (tl mo))) (tr (tl (tl mo)) (tr (tl mo) (tr mo (0 : Int32))))))))] [(.int (1 : Int32)), (.int (tk mo (0 : Int32)))]))
    refine OGets.step (fun _ => XS.icmpNo X20.here hx rfl (hb hby at_71) rfl (teq (own_r1f _ hm0 hc63_42 : (tk mo (0 : Int32)) = (1 : Int32))).2) ?_
    exact K21
set_option maxRecDepth 65536 in
set_option maxHeartbeats 40000000 in
theorem comes_1 {Post : Tables → Env → Array Value → State → Outcome → State → Prop} (hpost : ∀ tb e args s v u, (limb_1_1.after args s (.returned v) u = true ∧ limb_1_2.after args s (.returned v) u = true ∧ True) → FrameEnd s (.returned v) u (Jvm.fieldLocs frame_1_writes args s ++ Jvm.arrayLocs frame_1_arrays args s ++ Jvm.staticLocs frame_1_statics s) 16 128 → Post tb e args s (.returned v) u) :
    ArmFor flags0 classFile x code maxLocals ret World_1 tables_1 room_1 Calls_1 rest_1 Pre_1 Post := by
  intro l hfl _ _ p e ha hc hk s m args below hf hA hF happ hP
  obtain ⟨hcalls, hrest, hpre⟩ := hP
  obtain ⟨-, -, -, hnamed, -, -, -, hat⟩ := (Spec.applies_iff hf).mp happ
  obtain ⟨hg, hn⟩ := and_e (Cond.before_iff.mp (show (Jvm.Cond.and given_1 narrow_1).before args s = true from hpre))
  obtain ⟨hcount, hg0⟩ := and_e hg
  have ga0 := hg0
  obtain ⟨w0, rfl⟩ : ∃ w0 : Value, args = #[w0] := by
    have hs : args.size = 1 := by simpa [Cond.value, given_1] using hcount
    obtain ⟨L⟩ := args
    match L, hs with
    | [w0], _ => exact ⟨w0, rfl⟩
  have hw := fun d (hd : d ∈ tables_1) => atoms_spec (ws := Jvm.Cond.code x code maxLocals ret :: tables_1) hat d (List.mem_cons_of_mem _ hd)
  have hfit : Fit s := fun {y c} hc i hi => by
    obtain ⟨ha, rfl⟩ := Array.getElem?_eq_some_iff.mp hc
    have q := List.all_eq_true.mp ((Array.all_eq_true_iff_forall_mem.mp hF) _ (Array.getElem_mem ha)) i (List.mem_range.mpr hi)
    simpa [Array.getElem?_eq_getElem hi] using q
  obtain ⟨i0, ei0⟩ := isL_v ga0
  obtain rfl : w0 = (.long i0) := Option.some.inj ei0
  obtain ⟨n, o, h1, h2, h3, _, L, rfl, ⟨rfl, N⟩, hq⟩ := rm_law l s _ hw tables_1 i0 s.heap s.heap.size (Nat.le_refl _)  (OView.nil _ _ _) p e ha hc hk s m _ below hf ((Spec.applies_iff_loose hf).mp happ).1 ⟨rfl, State.Warmed39.refl s, rfl⟩ trivial
  refine ⟨n, _, h1, h2, h3, hpost _ _ _ _ _ _ ⟨Cond.after_iff.mpr rfl, Cond.after_iff.mpr (eq_i res_at (Term.int_eval (1)) rfl), trivial⟩ ⟨hq.1, hq.2.1, (hq.2.2.sift fun y hy => Or.inr (N y hy)).mono (by decide) (by decide)⟩⟩
theorem main_1_1 : Claimed_1_1 := comes_1 fun _ _ _ _ _ _ h hF => ⟨h.1, hF⟩
theorem main_1_2 : Claimed_1_2 := comes_1 fun _ _ _ _ _ _ h hF => ⟨h.2.1, hF⟩
end Jvm.Pilot.@@N@@
namespace Jvm.Pilot.@@N@@
open Jvm Jvm.ClassFile Sem Op Lib Jvm.Free Jvm.Stand Jvm.Pilot.@@N@@.Jvm.D
/-! MADE BY PROGRAM (witnessworld.py) out of the Statement's table words and the real class files: 9 classes; the members and pool entries that the words name. The judged class is class 1, her method 1. -/
namespace start1
open Jvm.ClassFile
def u (s : String) : CpInfo := .utf8 (stringToUtf16 s)
/-- a pool by its gaps: so many unusable entries, then the entry; so many at the end -/
def gap : Nat → List CpInfo → List CpInfo
  | 0, r => r
  | n + 1, r => .unusable :: gap n r
def poolList (es : List (Nat × CpInfo)) (last : Nat) : List CpInfo := es.foldr (fun e r => gap e.1 (e.2 :: r)) (gap last [])
def pool (es : List (Nat × CpInfo)) (last : Nat) : Array CpInfo := ⟨poolList es last⟩
def fileOf (pool : Array CpInfo) (this : Nat) (attrs : Array Attribute := #[]) (ms : Array MethodInfo := #[]) (fl : Nat := 33) (sup : Nat := 0) (ifs : Array Nat := #[]) (fds : Array FieldInfo := #[]) : ClassFile where
  minorVersion := 0
  majorVersion := 65
  constantPool := pool
  accessFlags := fl
  thisClass := this
  superClass := sup
  interfaces := ifs
  fields := fds
  methods := ms
  attributes := attrs
def plain (name : String) (sup : Option ClassId) : Class where
  name := name
  kind := .ordinary
  loader := none
  accessFlags := 33
  super := sup
  interfaces := #[]
  cf := none
  fields := #[]
  methods := #[]
  instanceTypes := #[]
  staticTypes := #[]
  resolved := #[]
  callSites := []
  init := .initialized
  statics := none
  mirror := none

def pool0 : Array CpInfo := pool [(5, u "<init>"), (0, u "()V"), (1, .class_ 10), (1, u "java/lang/Object")] 113

def k0c0 : Code := { maxStack := 0, maxLocals := 1, code := object_method_1_code, exceptionTable := #[], attributes := #[] }
def k0m0 : Method := { name := "<init>", desc := "()V", sig := { parameters := [], returnType := none }, accessFlags := 1, code := some k0c0 }
/-- java/lang/Object -/
def k0 : Class := { plain "java/lang/Object" none with
  accessFlags := 33
  interfaces := #[]
  cf := some (fileOf pool0 8 #[] #[{ accessFlags := 1, nameIndex := 5, descriptorIndex := 6, attributes := #[] }] 33 0 #[] #[])
  fields := #[]
  methods := #[k0m0]
  instanceTypes := #[]
  staticTypes := #[]
  resolved := Array.replicate 124 none
  statics := none }

def pool1 : Array CpInfo := pool [(2, .class_ 4), (1, u "java/lang/Object"), (0, u "<init>"), (0, u "()V"), (2, .long 9223372036854775807), (1, .class_ 12), (0, u "com/example/inya/inya/AssignmentSearch$Tries"), (0, .methodref 11 14), (0, .nameAndType 5 15), (0, u "(J)V"), (0, .methodref 11 17), (0, .nameAndType 18 19), (0, u "take"), (0, u "()Z"), (0, .methodref 11 21), (0, .nameAndType 22 19), (0, u "ranOut"), (0, .long 2), (1, .long 3), (1, .long 4), (1, .long 5), (1, .class_ 32), (0, u "com/example/inya/inya/TriesTakePinLaw"), (2, u "law"), (0, u "(J)Z")] 7

def k1m0 : Method := { name := "<init>", desc := "()V", sig := { parameters := [], returnType := none }, accessFlags := 1, code := none }
def k1c1 : Code := { maxStack := 5, maxLocals := 11, code := code, exceptionTable := #[], attributes := #[] }
def k1m1 : Method := { name := "law", desc := "(J)Z", sig := { parameters := [.long], returnType := some .boolean }, accessFlags := 9, code := some k1c1 }
/-- com/example/inya/inya/TriesTakePinLaw -/
def k1 : Class := { plain "com/example/inya/inya/TriesTakePinLaw" (some 0) with
  accessFlags := 49
  interfaces := #[]
  cf := some (fileOf pool1 31 #[] #[{ accessFlags := 1, nameIndex := 5, descriptorIndex := 6, attributes := #[] }, { accessFlags := 9, nameIndex := 35, descriptorIndex := 36, attributes := #[] }] 49 2 #[] #[])
  fields := #[]
  methods := #[k1m0, k1m1]
  instanceTypes := #[]
  staticTypes := #[]
  resolved := Array.replicate 44 none
  statics := none }

def pool2 : Array CpInfo := pool [(1, .methodref 2 3), (0, .class_ 4), (0, .nameAndType 5 6), (0, u "java/lang/Object"), (0, u "<init>"), (0, u "()V"), (0, .fieldref 8 9), (0, .class_ 10), (0, .nameAndType 11 12), (0, u "com/example/inya/inya/AssignmentSearch$Tries"), (0, u "left"), (0, u "J"), (0, .fieldref 8 14), (0, .nameAndType 15 16), (0, u "ranOut"), (0, u "Z"), (0, u "(J)V"), (2, u "take"), (0, u "()Z"), (4, .class_ 27), (0, u "com/example/inya/inya/AssignmentSearch")] 2

def k2c0 : Code := { maxStack := 3, maxLocals := 3, code := prog_4_method_1_code, exceptionTable := #[], attributes := #[] }
def k2m0 : Method := { name := "<init>", desc := "(J)V", sig := { parameters := [.long], returnType := none }, accessFlags := 0, code := some k2c0 }
def k2c1 : Code := { maxStack := 5, maxLocals := 1, code := prog_4_method_2_code, exceptionTable := #[], attributes := #[] }
def k2m1 : Method := { name := "take", desc := "()Z", sig := { parameters := [], returnType := some .boolean }, accessFlags := 0, code := some k2c1 }
def k2c2 : Code := { maxStack := 1, maxLocals := 1, code := prog_4_method_3_code, exceptionTable := #[], attributes := #[] }
def k2m2 : Method := { name := "ranOut", desc := "()Z", sig := { parameters := [], returnType := some .boolean }, accessFlags := 0, code := some k2c2 }
/-- com/example/inya/inya/AssignmentSearch$Tries -/
def k2 : Class := { plain "com/example/inya/inya/AssignmentSearch$Tries" (some 0) with
  accessFlags := 32
  interfaces := #[]
  cf := some (fileOf pool2 8 #[.nestHost 26] #[{ accessFlags := 0, nameIndex := 5, descriptorIndex := 17, attributes := #[] }, { accessFlags := 0, nameIndex := 20, descriptorIndex := 21, attributes := #[] }, { accessFlags := 0, nameIndex := 15, descriptorIndex := 21, attributes := #[] }] 32 2 #[] #[{ accessFlags := 2, nameIndex := 11, descriptorIndex := 12, attributes := #[] }, { accessFlags := 2, nameIndex := 15, descriptorIndex := 16, attributes := #[] }])
  fields := #[{ name := "left", type := .long, accessFlags := 2, slot := 0, constantValue := 0 }, { name := "ranOut", type := .boolean, accessFlags := 2, slot := 1, constantValue := 0 }]
  methods := #[k2m0, k2m1, k2m2]
  instanceTypes := #[.long, .boolean]
  staticTypes := #[]
  resolved := Array.replicate 30 none
  statics := none }

def pool3 : Array CpInfo := pool [(1, u "java/lang/Cloneable"), (0, .class_ 1), (0, u "java/lang/Object"), (0, .class_ 3)] 3

/-- java/lang/Cloneable -/
def k3 : Class := { plain "java/lang/Cloneable" (some 0) with
  accessFlags := 1537
  interfaces := #[]
  cf := some (fileOf pool3 2 #[] #[] 1537 4 #[] #[])
  fields := #[]
  methods := #[]
  instanceTypes := #[]
  staticTypes := #[]
  resolved := Array.replicate 8 none
  statics := none }

def pool4 : Array CpInfo := pool [(1, u "java/io/Serializable"), (0, .class_ 1), (0, u "java/lang/Object"), (0, .class_ 3)] 3

/-- java/io/Serializable -/
def k4 : Class := { plain "java/io/Serializable" (some 0) with
  accessFlags := 1537
  interfaces := #[]
  cf := some (fileOf pool4 2 #[] #[] 1537 4 #[] #[])
  fields := #[]
  methods := #[]
  instanceTypes := #[]
  staticTypes := #[]
  resolved := Array.replicate 8 none
  statics := none }

/-- the primitive byte -/
def k5 : Class := { plain "byte" none with kind := .primitive 'B', accessFlags := 0x411 }
/-- [B -/
def k6 : Class := { plain "[B" (some 0) with kind := .array 5 .byte, interfaces := #[3, 4], accessFlags := 1041 }

/-- the primitive int -/
def k7 : Class := { plain "int" none with kind := .primitive 'I', accessFlags := 0x411 }
/-- [I -/
def k8 : Class := { plain "[I" (some 0) with kind := .array 7 .int, interfaces := #[3, 4], accessFlags := 1041 }

def heap : Heap := #[]
def classes : Array Class := #[k0, k1, k2, k3, k4, k5, k6, k7, k8]
def interned : List (Array UInt16 × Addr) := []
def slotsUsed : Nat := 0
def theMethod : MethodId := ⟨1, 1⟩
def args0 : Array Value := #[.long 3]
def aboutOver (below : List Frame) : State where
  vm := { classes := classes, interned := interned.toArray }
  heap := heap
  slotsUsed := slotsUsed
  threads := #[{ frames := .invoking theMethod args0 :: below }]
def below0 : List Frame := [.native { method := ⟨0, 0⟩, args := #[] }]
def about1 : State := aboutOver below0
def p0 : Program := .bare "" "" ""
def e0 : Env := launch0.env 0 0 0
theorem w_frames : about1.frames = Frame.invoking theMethod args0 :: below0 := rfl
set_option maxRecDepth 65536 in
theorem w_args : argsFit about1.vm theMethod args0 = true := by decide +kernel
set_option maxRecDepth 65536 in
theorem w_heap : heapFits about1 = true := by decide +kernel
set_option maxRecDepth 65536 in
theorem w_runnable : about1.curStatus? = some .runnable := by decide +kernel
set_option maxRecDepth 65536 in
theorem w_alone : about1.alone = true := by decide +kernel
set_option maxRecDepth 65536 in
theorem w_named : about1.methodNamed? x = some theMethod := by decide +kernel
set_option maxRecDepth 65536 in
theorem w_hears : about1.hears theMethod below0 = true := by decide +kernel
set_option maxRecDepth 65536 in
theorem w_ripe : about1.ripe theMethod args0 below0 = true := by decide +kernel
theorem w_running : about1.status = .running := rfl
set_option maxRecDepth 65536 in
theorem w_room : about1.hasRoom e0.platform room_1 = true :=
  launch0.hasRoom_least _ room_1 (by decide +kernel) (by decide +kernel) (by decide +kernel) (by decide +kernel) (by decide +kernel) (by decide +kernel)
theorem allAtoms_all (ts : List Jvm.Cond) (a : Array Jvm.Value) (st : Jvm.State) : (allAtoms ts).before a st = ts.all (fun c => c.before a st) := by
  induction ts with
  | nil => rfl
  | cons c t ih =>
    show (Jvm.Cond.and c (allAtoms t)).before a st = _
    rw [Jvm.Cond.before_and, ih, List.all_cons]
def words1 : List Jvm.Cond := Jvm.Cond.code x code maxLocals ret :: tables_1
/-- a 'code' word, met by the world's own term for the bytes: nothing is compared byte by byte -/
theorem code_word {y : MethodName} {bytes : ByteArray} {mx : Nat} {rt : Option FieldType} {a : Array Value} {s : State} {m : MethodId} {meth : Method} {c : Code} (h1 : s.methodNamed? y = some m) (h2 : s.vm.method? m = some meth) (h3 : meth.code = some c) (h4 : c.code = bytes)
    (h5 : (c.maxLocals == mx && c.exceptionTable.isEmpty && decide (c.maxStack ≤ mostOperands) && decide (meth.sig.returnType = rt) && !meth.locks && decide (parseMethodDescriptor y.desc = some meth.sig)) = true) : (Jvm.Cond.code y bytes mx rt).before a s = true := by
  simp only [Bool.and_eq_true, beq_iff_eq, Bool.not_eq_true', decide_eq_true_eq] at h5
  obtain ⟨⟨⟨⟨⟨g1, g2⟩, g3⟩, g4⟩, g5⟩, g6⟩ := h5
  simp [Cond.before, Cond.holds, Cond.value, h1, h2, h3, h4, g1, g2, g3, g4, g5, g6]
def isCode : Jvm.Cond → Bool
  | .code _ _ _ _ => true
  | _ => false
theorem all_split {L : List Jvm.Cond} {P : Jvm.Cond → Bool} (h1 : L.all (fun c => isCode c || P c) = true) (h2 : ∀ c ∈ L.filter isCode, P c = true) : L.all P = true := by
  refine List.all_eq_true.mpr fun c hc => ?_
  have h := List.all_eq_true.mp h1 c hc
  rcases Bool.eq_false_or_eq_true (isCode c) with hi | hi
  · exact h2 c (List.mem_filter.mpr ⟨hc, hi⟩)
  · simpa [hi] using h
set_option maxRecDepth 65536 in
theorem w_c0 : (Jvm.Cond.code x code maxLocals ret).before args0 about1 = true := code_word (m := ⟨1, 1⟩) (meth := k1m1) (c := k1c1) (by decide +kernel) rfl rfl rfl (by decide +kernel)
set_option maxRecDepth 65536 in
theorem w_c1 : (Jvm.Cond.code ({ cls := "com/example/inya/inya/AssignmentSearch$Tries", name := "<init>", desc := "(J)V" } : Jvm.MethodName) prog_4_method_1_code (3 : Nat) (Option.none : Option Jvm.ClassFile.FieldType)).before args0 about1 = true := code_word (m := ⟨2, 0⟩) (meth := k2m0) (c := k2c0) (by decide +kernel) rfl rfl rfl (by decide +kernel)
set_option maxRecDepth 65536 in
theorem w_c2 : (Jvm.Cond.code ({ cls := "java/lang/Object", name := "<init>", desc := "()V" } : Jvm.MethodName) object_method_1_code (1 : Nat) (Option.none : Option Jvm.ClassFile.FieldType)).before args0 about1 = true := code_word (m := ⟨0, 0⟩) (meth := k0m0) (c := k0c0) (by decide +kernel) rfl rfl rfl (by decide +kernel)
set_option maxRecDepth 65536 in
theorem w_c3 : (Jvm.Cond.code ({ cls := "com/example/inya/inya/AssignmentSearch$Tries", name := "take", desc := "()Z" } : Jvm.MethodName) prog_4_method_2_code (1 : Nat) (Option.some Jvm.ClassFile.FieldType.boolean)).before args0 about1 = true := code_word (m := ⟨2, 1⟩) (meth := k2m1) (c := k2c1) (by decide +kernel) rfl rfl rfl (by decide +kernel)
set_option maxRecDepth 65536 in
theorem w_c4 : (Jvm.Cond.code ({ cls := "com/example/inya/inya/AssignmentSearch$Tries", name := "ranOut", desc := "()Z" } : Jvm.MethodName) prog_4_method_3_code (1 : Nat) (Option.some Jvm.ClassFile.FieldType.boolean)).before args0 about1 = true := code_word (m := ⟨2, 2⟩) (meth := k2m2) (c := k2c2) (by decide +kernel) rfl rfl rfl (by decide +kernel)
def codes1 : List Jvm.Cond := [Jvm.Cond.code x code maxLocals ret, Jvm.Cond.code ({ cls := "com/example/inya/inya/AssignmentSearch$Tries", name := "<init>", desc := "(J)V" } : Jvm.MethodName) prog_4_method_1_code (3 : Nat) (Option.none : Option Jvm.ClassFile.FieldType), Jvm.Cond.code ({ cls := "java/lang/Object", name := "<init>", desc := "()V" } : Jvm.MethodName) object_method_1_code (1 : Nat) (Option.none : Option Jvm.ClassFile.FieldType), Jvm.Cond.code ({ cls := "com/example/inya/inya/AssignmentSearch$Tries", name := "take", desc := "()Z" } : Jvm.MethodName) prog_4_method_2_code (1 : Nat) (Option.some Jvm.ClassFile.FieldType.boolean), Jvm.Cond.code ({ cls := "com/example/inya/inya/AssignmentSearch$Tries", name := "ranOut", desc := "()Z" } : Jvm.MethodName) prog_4_method_3_code (1 : Nat) (Option.some Jvm.ClassFile.FieldType.boolean)]
set_option maxRecDepth 65536 in
theorem codes_eq : words1.filter isCode = codes1 := rfl
theorem w_codes : ∀ c ∈ words1.filter isCode, c.before args0 about1 = true := by
  rw [codes_eq]
  intro c hc
  simp only [codes1, List.mem_cons, List.not_mem_nil, or_false] at hc
  rcases hc with rfl | rfl | rfl | rfl | rfl
  · exact w_c0
  · exact w_c1
  · exact w_c2
  · exact w_c3
  · exact w_c4
set_option maxRecDepth 65536 in
theorem w_t1 : (words1.take 24).all (fun c => isCode c || c.before args0 about1) = true := by decide +kernel
set_option maxRecDepth 65536 in
theorem w_t2 : (words1.drop 24).all (fun c => isCode c || c.before args0 about1) = true := by decide +kernel
theorem w_tables : (allAtoms (Jvm.Cond.code x code maxLocals ret :: tables_1)).before args0 about1 = true := by
  rw [allAtoms_all]
  show words1.all (fun c => c.before args0 about1) = true
  refine all_split ?_ w_codes
  rw [← List.take_append_drop 24 words1, List.all_append, w_t1, w_t2]
  rfl
set_option maxRecDepth 65536 in
theorem w_case : (Jvm.Cond.and given_1 narrow_1).before args0 about1 = true := by decide +kernel
theorem w_applies : (headSpec (Jvm.Cond.code x code maxLocals ret :: tables_1) room_1).applies x e0.platform about1 = true :=
  (Spec.applies_iff w_frames).mpr ⟨w_running, w_runnable, w_alone, w_named, w_hears, w_ripe, w_room, w_tables⟩
theorem atStart : AtStart classFile x code maxLocals ret World_1 tables_1 room_1 Calls_1 rest_1 Pre_1 launch0 p0 e0 about1 theMethod args0 below0 :=
  ⟨lists_1, trivial, launch0.admits_env _ _ _, launch0.least_env, fairChoices_fair.cas, fairChoices_fair.clock, w_frames, w_args, w_heap, w_applies, trivial, trivial, w_case⟩
end start1
theorem witness_1 : WitnessClaimed_1 := ⟨start1.p0, start1.e0, start1.about1, start1.theMethod, start1.args0, start1.below0, start1.atStart⟩
end Jvm.Pilot.@@N@@
