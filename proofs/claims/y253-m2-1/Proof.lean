import JvmDerived
import JvmDerived.Pilot.@@N@@Statement
import JvmDerived.Pilot.@@N@@Code
set_option linter.unusedVariables false
set_option linter.unusedSimpArgs false
namespace Jvm.Pilot.@@N@@
open Jvm Jvm.ClassFile Sem Op Lib Jvm.Free Jvm.Stand Jvm.LawKit Jvm.RoadKit Bundle Jvm.Pilot.@@N@@.Jvm.D
/-! OWN KIT: a walk as a goal that goes forward (OGets), and a list of the fresh objects with what they hold (OView) -/
section OwnKit
variable {p : Program} {l : Launch} {e : Env} {R : Room} {s : State} {m : MethodId} {args : Array Value} {below : List Frame} {meth : Method} {c : Code} {T : State} {locs : List Loc} {cells slots : Nat} {Z : State} {a0 : Array Value} {h h' : Heap} {n0 : Nat}
/-- from U the run comes to an end that P allows -/
def OGets (p : Program) (e : Env) (below : List Frame) (P : State → Outcome → Prop) (U : State) : Prop := ∃ s₂ o, Steps p.tables e below U s₂ ∧ s₂.status = .running ∧ Ended s₂ below o ∧ P s₂ o
def OLeaves (s : State) (Q : Option Value → Heap → List Loc → Prop) (k n : Nat) (t : State) (o : Outcome) : Prop := ∃ v L, o = .returned v ∧ Q v t.heap L ∧ FrameEnd s o t L k n
theorem OGets.step {P : State → Outcome → Prop} {U U' : State} (k : ∀ t, Steps p.tables e below U' t → Steps p.tables e below U t) (g : OGets p e below P U') : OGets p e below P U := by
  obtain ⟨t, o, h1, h2⟩ := g
  exact ⟨t, o, k t h1, h2⟩
theorem OGets.after {P : State → Outcome → Prop} {U U' : State} (k : Steps p.tables e below U U') (g : OGets p e below P U') : OGets p e below P U := by
  obtain ⟨t, o, h1, h2⟩ := g
  exact ⟨t, o, k.trans h1, h2⟩
theorem OGets.enter {P : State → Outcome → Prop} {g g' : JFrame} (q : g = g') (k : OGets p e below P (T.setTop g')) : OGets p e below P (T.setTop g) := q ▸ k
theorem OGets.cut {P : State → Outcome → Prop} {U U' : State} (k : OGets p e below P U') (f : OGets p e below P U' → OGets p e below P U) : OGets p e below P U := f k
theorem OGets.retN (X : Stand p l e R s m args below meth c T locs cells slots) (hx : p.tables.exec = Jvm.exec) (hk : meth.locks = false) {t : FieldType} (hret : meth.sig.returnType = some t) (ht : t = .boolean ∨ t = .byte ∨ t = .char ∨ t = .short) {pc : Nat} {Ls : Array Slot} {z : Int32} {rest : List Value}
    (hd : decode c.code pc = .ok (.ireturn, 1)) {Q : Option Value → Heap → List Loc → Prop} {k n : Nat} (hc : cells ≤ k) (hs : slots ≤ n) (hQ : Q (some (.int (nar t z))) T.heap locs) : OGets p e below (OLeaves s Q k n) (T.setTop (mkF m pc Ls (.int z :: rest))) := by
  obtain ⟨fs, hr, hrun, hended, hW, hsame⟩ := X.leave (v := some (.int (nar t z))) (fun h => by rw [hret] at h; cases h) hk
  exact ⟨_, _, Jvm.RoadKit.retN X hx hret ht hd hr, hrun, hended, _, _, rfl, hQ, ⟨_, rfl⟩, hW, hsame.mono hc hs⟩
theorem OGets.retI (X : Stand p l e R s m args below meth c T locs cells slots) (hx : p.tables.exec = Jvm.exec) (hk : meth.locks = false) (hret : meth.sig.returnType = some .int) {pc : Nat} {Ls : Array Slot} {z : Int32} {rest : List Value}
    (hd : decode c.code pc = .ok (.ireturn, 1)) {Q : Option Value → Heap → List Loc → Prop} {k n : Nat} (hc : cells ≤ k) (hs : slots ≤ n) (hQ : Q (some (.int z)) T.heap locs) : OGets p e below (OLeaves s Q k n) (T.setTop (mkF m pc Ls (.int z :: rest))) := by
  obtain ⟨fs, hr, hrun, hended, hW, hsame⟩ := X.leave (v := some (.int z)) (fun h => by rw [hret] at h; cases h) hk
  exact ⟨_, _, Jvm.RoadKit.retOut X hx hret rfl (Or.inl ⟨rfl, Or.inl rfl, _, rfl⟩) hd hr, hrun, hended, _, _, rfl, hQ, ⟨_, rfl⟩, hW, hsame.mono hc hs⟩
theorem OGets.retJ (X : Stand p l e R s m args below meth c T locs cells slots) (hx : p.tables.exec = Jvm.exec) (hk : meth.locks = false) (hret : meth.sig.returnType = some .long) {pc : Nat} {Ls : Array Slot} {z : Int64} {rest : List Value}
    (hd : decode c.code pc = .ok (.lreturn, 1)) {Q : Option Value → Heap → List Loc → Prop} {k n : Nat} (hc : cells ≤ k) (hs : slots ≤ n) (hQ : Q (some (.long z)) T.heap locs) : OGets p e below (OLeaves s Q k n) (T.setTop (mkF m pc Ls (.long z :: rest))) := by
  obtain ⟨fs, hr, hrun, hended, hW, hsame⟩ := X.leave (v := some (.long z)) (fun h => by rw [hret] at h; cases h) hk
  exact ⟨_, _, Jvm.RoadKit.retOut X hx hret rfl (Or.inr (Or.inl ⟨rfl, rfl, _, rfl⟩)) hd hr, hrun, hended, _, _, rfl, hQ, ⟨_, rfl⟩, hW, hsame.mono hc hs⟩
theorem OGets.retA (X : Stand p l e R s m args below meth c T locs cells slots) (hx : p.tables.exec = Jvm.exec) (hk : meth.locks = false) {t : FieldType} (hret : meth.sig.returnType = some t) (ht : t.isReference = true) {pc : Nat} {Ls : Array Slot} {w : Value} {rest : List Value} (hw : w.isRef = true) (hn : narrow t w = w)
    (hd : decode c.code pc = .ok (.areturn, 1)) {Q : Option Value → Heap → List Loc → Prop} {k n : Nat} (hc : cells ≤ k) (hs : slots ≤ n) (hQ : Q (some w) T.heap locs) : OGets p e below (OLeaves s Q k n) (T.setTop (mkF m pc Ls (w :: rest))) := by
  obtain ⟨fs, hr, hrun, hended, hW, hsame⟩ := X.leave (v := some w) (fun h => by rw [hret] at h; cases h) hk
  exact ⟨_, _, Jvm.RoadKit.retOut X hx hret hn (Or.inr (Or.inr (Or.inr (Or.inr ⟨rfl, ht, hw⟩)))) hd hr, hrun, hended, _, _, rfl, hQ, ⟨_, rfl⟩, hW, hsame.mono hc hs⟩
theorem OGets.retV (X : Stand p l e R s m args below meth c T locs cells slots) (hx : p.tables.exec = Jvm.exec) (hk : meth.locks = false) (hret : meth.sig.returnType = none) {pc : Nat} {Ls : Array Slot}
    (hd : decode c.code pc = .ok (.return_, 1)) {Q : Option Value → Heap → List Loc → Prop} {k n : Nat} (hc : cells ≤ k) (hs : slots ≤ n) (hQ : Q none T.heap locs) : OGets p e below (OLeaves s Q k n) (T.setTop (mkF m pc Ls [])) := by
  obtain ⟨fs, hr, hrun, hended, hW, hsame⟩ := X.leave (v := none) (fun _ => rfl) hk
  exact ⟨_, _, X.returnOut hx hret hd hr, hrun, hended, _, _, rfl, hQ, ⟨_, rfl⟩, hW, hsame.mono hc hs⟩
/-- an object (class, fields, their values) or an array (what it is of, its components) -/
abbrev OObj : Type := Sum (String × List (String × String × String) × List Value) (FieldType × List Value)
def OHold (Z : State) (h : Heap) (a : Addr) (o : OObj) : Prop :=
  (∀ q, o = Sum.inl q → Exa Z h a q.1 ∧ q.2.1.Pairwise (fun x y => Jvm.RoadKit.slotOf Z x.1 x.2.1 x.2.2 ≠ Jvm.RoadKit.slotOf Z y.1 y.2.1 y.2.2) ∧ ∀ (j : Nat) (k : String × String × String) (v : Value), q.2.1[j]? = some k → q.2.2[j]? = some v → Fld Z h a k.1 k.2.1 k.2.2 v) ∧
  (∀ q, o = Sum.inr q → ∃ cl : Cell, Arr Z h a cl q.1 ∧ cl.slots.toList = q.2)
variable {a b : Addr} {o : OObj} {sl : Nat} {v : Value} {os : List (Addr × OObj)} {C : String} {ns : List (String × String × String)} {vs : List Value} {ty : FieldType}
theorem OHold.other (W : Wr h h' a sl v) (hne : b ≠ a) (H : OHold Z h b o) : OHold Z h' b o := by
  refine ⟨fun q hq => ?_, fun q hq => ?_⟩
  · obtain ⟨h1, h2, h3⟩ := H.1 q hq
    exact ⟨h1.wr W, h2, fun j k w e1 e2 => (h3 j k w e1 e2).other W (Or.inl hne)⟩
  · obtain ⟨cl, h1, h2⟩ := H.2 q hq
    exact ⟨cl, h1.other W hne, h2⟩
theorem OHold.ext (E : Ext h h') (H : OHold Z h b o) : OHold Z h' b o := by
  refine ⟨fun q hq => ?_, fun q hq => ?_⟩
  · obtain ⟨h1, h2, h3⟩ := H.1 q hq
    exact ⟨h1.ext E, h2, fun j k w e1 e2 => (h3 j k w e1 e2).ext E⟩
  · obtain ⟨cl, h1, h2⟩ := H.2 q hq
    exact ⟨cl, h1.ext E, h2⟩
theorem OHold.obj (h1 : Exa Z h a C) (h2 : ns.Pairwise (fun x y => Jvm.RoadKit.slotOf Z x.1 x.2.1 x.2.2 ≠ Jvm.RoadKit.slotOf Z y.1 y.2.1 y.2.2)) (h3 : ∀ (j : Nat) (k : String × String × String) (v : Value), ns[j]? = some k → vs[j]? = some v → Fld Z h a k.1 k.2.1 k.2.2 v) : OHold Z h a (Sum.inl (C, ns, vs)) :=
  ⟨fun q hq => (by cases hq; exact ⟨h1, h2, h3⟩), fun q hq => (by cases hq)⟩
theorem OHold.arr {cl : Cell} (h1 : Arr Z h a cl ty) (h2 : cl.slots.toList = vs) : OHold Z h a (Sum.inr (ty, vs)) :=
  ⟨fun q hq => (by cases hq), fun q hq => (by cases hq; exact ⟨cl, h1, h2⟩)⟩
theorem OHold.putF (H : OHold Z h a (Sum.inl (C, ns, vs))) {j : Nat} {k : String × String × String} (hj : ns[j]? = some k) (W : Wr h h' a (Jvm.RoadKit.slotOf Z k.1 k.2.1 k.2.2) v) : OHold Z h' a (Sum.inl (C, ns, vs.set j v)) := by
  obtain ⟨h1, h2, h3⟩ := H.1 _ rfl
  refine OHold.obj (h1.wr W) h2 fun i k' w e1 e2 => ?_
  by_cases q : j = i
  · subst q
    rw [hj] at e1; cases e1
    rw [List.getElem?_set] at e2
    split at e2
    · split at e2
      · rename_i hlt
        cases e2
        exact (h3 j k _ hj (List.getElem?_eq_getElem hlt)).same W
      · cases e2
    · exact absurd rfl ‹_›
  · rw [List.getElem?_set_ne q] at e2
    refine (h3 i k' w e1 e2).other W (Or.inr ?_)
    obtain ⟨hi, e1⟩ := List.getElem?_eq_some_iff.mp e1
    obtain ⟨hj', hj⟩ := List.getElem?_eq_some_iff.mp hj
    have P := List.pairwise_iff_getElem.mp h2
    subst e1 hj
    rcases Nat.lt_or_gt_of_ne q with q | q
    · exact (P j i hj' hi q).symm
    · exact P i j hi hj' q
theorem OHold.putA (H : OHold Z h a (Sum.inr (ty, vs))) {j : Nat} (W : Wr h h' a j v) : OHold Z h' a (Sum.inr (ty, vs.set j v)) := by
  obtain ⟨cl, h1, h2⟩ := H.2 _ rfl
  exact OHold.arr (h1.same W) (by show (cl.slots.setIfInBounds j v).toList = vs.set j v; rw [Array.toList_setIfInBounds]; exact congrArg (fun z => z.set j v) h2)
/-- the objects made since the law began, as a list: no two at one place, none old, each as said -/
def OView (Z : State) (n0 : Nat) (h : Heap) (os : List (Addr × OObj)) : Prop := (os.map (·.1)).Nodup ∧ ∀ q ∈ os, n0 ≤ q.1 ∧ q.1 < h.size ∧ OHold Z h q.1 q.2
theorem OView.nil (Z : State) (n0 : Nat) (h : Heap) : OView Z n0 h [] := ⟨List.nodup_nil, fun q hq => by cases hq⟩
theorem OView.perm {os' : List (Addr × OObj)} (V : OView Z n0 h os) (P : os.Perm os') : OView Z n0 h os' := ⟨(P.map _).nodup_iff.mp V.1, fun q hq => V.2 q (P.mem_iff.mpr hq)⟩
theorem own_bring {α : Type} : ∀ (os : List α) (i : Nat) (q : α), os[i]? = some q → os.Perm (q :: os.eraseIdx i)
  | [], i, q, hq => by cases hq
  | x :: t, 0, q, hq => by cases hq; exact List.Perm.refl _
  | x :: t, i + 1, q, hq => (List.Perm.cons x (own_bring t i q hq)).trans (List.Perm.swap q x _)
theorem own_set {α : Type} : ∀ (os : List α) (i : Nat) (q r : α), os[i]? = some q → (r :: os.eraseIdx i).Perm (os.set i r)
  | [], i, q, r, hq => by cases hq
  | x :: t, 0, q, r, hq => List.Perm.refl _
  | x :: t, i + 1, q, r, hq => (List.Perm.swap x r _).trans (List.Perm.cons x (own_set t i q r hq))
theorem OView.bring (V : OView Z n0 h os) (i : Nat) {q : Addr × OObj} (hq : os[i]? = some q) : OView Z n0 h (q :: os.eraseIdx i) := V.perm (own_bring os i q hq)
theorem OView.at (V : OView Z n0 h os) (i : Nat) {q : Addr × OObj} (hq : os[i]? = some q) : n0 ≤ q.1 ∧ q.1 < h.size ∧ OHold Z h q.1 q.2 := V.2 q (List.mem_of_getElem? hq)
theorem OView.old (V : OView Z n0 h os) (i : Nat) {a : Addr} {o : OObj} (hq : os[i]? = some (a, o)) : n0 ≤ a := (V.at i hq).1
theorem OView.big (V : OView Z n0 h os) (i : Nat) {q : Addr × OObj} (hq : os[i]? = some q) : n0 ≤ h.size := Nat.le_trans (V.at i hq).1 (Nat.le_of_lt (V.at i hq).2.1)
theorem OView.exa (V : OView Z n0 h os) (i : Nat) {a : Addr} (hq : os[i]? = some (a, Sum.inl (C, ns, vs))) : Exa Z h a C := ((V.at i hq).2.2.1 _ rfl).1
theorem OView.fld (V : OView Z n0 h os) (i : Nat) {a : Addr} (hq : os[i]? = some (a, Sum.inl (C, ns, vs))) (j : Nat) {O n d : String} (hj : ns[j]? = some (O, n, d)) (hv : vs[j]? = some v) : Fld Z h a O n d v := ((V.at i hq).2.2.1 _ rfl).2.2 j _ v hj hv
theorem OView.arr (V : OView Z n0 h os) (i : Nat) {a : Addr} (hq : os[i]? = some (a, Sum.inr (ty, vs))) : ∃ cl : Cell, Arr Z h a cl ty ∧ cl.slots.toList = vs := (V.at i hq).2.2.2 _ rfl
theorem OView.up (V : OView Z n0 h os) (W : Wr h h' a sl v) (i : Nat) {o o' : OObj} (hq : os[i]? = some (a, o)) (H : OHold Z h' a o') : OView Z n0 h' (os.set i (a, o')) := by
  have V1 := V.bring i hq
  have V2 : OView Z n0 h' ((a, o') :: os.eraseIdx i) := by
    refine ⟨V1.1, fun q hq' => ?_⟩
    rcases List.mem_cons.mp hq' with rfl | hq'
    · exact ⟨(V.at i hq).1, by rw [W.size]; exact (V.at i hq).2.1, H⟩
    · obtain ⟨h1, h2, h3⟩ := V1.2 q (List.mem_cons_of_mem _ hq')
      refine ⟨h1, by rw [W.size]; exact h2, h3.other W fun e => ?_⟩
      have := (List.nodup_cons.mp V1.1).1
      exact this (List.mem_map.mpr ⟨q, hq', e⟩)
  exact V2.perm (own_set os i _ _ hq)
theorem OView.putF (V : OView Z n0 h os) (i : Nat) (hq : os[i]? = some (a, Sum.inl (C, ns, vs))) (j : Nat) {O n d : String} (hj : ns[j]? = some (O, n, d)) (W : Wr h h' a (Jvm.RoadKit.slotOf Z O n d) v) : OView Z n0 h' (os.set i (a, Sum.inl (C, ns, vs.set j v))) := V.up W i hq ((V.at i hq).2.2.putF hj W)
theorem OView.putA (V : OView Z n0 h os) (i : Nat) (hq : os[i]? = some (a, Sum.inr (ty, vs))) {j : Nat} (W : Wr h h' a j v) : OView Z n0 h' (os.set i (a, Sum.inr (ty, vs.set j v))) := V.up W i hq ((V.at i hq).2.2.putA W)
theorem OView.ext (V : OView Z n0 h os) (E : Ext h h') : OView Z n0 h' os := ⟨V.1, fun q hq => ⟨(V.2 q hq).1, Nat.lt_of_lt_of_le (V.2 q hq).2.1 E.1, (V.2 q hq).2.2.ext E⟩⟩
theorem OView.cons (V : OView Z n0 h os) (hn : n0 ≤ h.size) (E : Ext h h') (hlt : h.size < h'.size) (H : OHold Z h' h.size o) : OView Z n0 h' ((h.size, o) :: os) := by
  refine ⟨List.nodup_cons.mpr ⟨fun hm => ?_, V.1⟩, fun q hq => ?_⟩
  · obtain ⟨q, h1, h2⟩ := List.mem_map.mp hm
    exact Nat.lt_irrefl _ (h2 ▸ (V.2 q h1).2.1)
  · rcases List.mem_cons.mp hq with rfl | hq
    · exact ⟨hn, hlt, H⟩
    · exact (V.ext E).2 q hq
theorem own_pair (hL : ∀ x ∈ ns, Laid Z a0 C x.1 x.2.1 x.2.2) (hd : ∀ x ∈ ns, (parseFieldDescriptor x.2.2).isSome = true) (hn : ns.Pairwise (fun x y => x.2.1 ≠ y.2.1)) : ns.Pairwise (fun x y => Jvm.RoadKit.slotOf Z x.1 x.2.1 x.2.2 ≠ Jvm.RoadKit.slotOf Z y.1 y.2.1 y.2.2) :=
  hn.imp_of_mem fun {x y} hx hy hne => by
    obtain ⟨t, ht⟩ := Option.isSome_iff_exists.mp (hd x hx)
    obtain ⟨t', ht'⟩ := Option.isSome_iff_exists.mp (hd y hy)
    exact slot_ne (hL x hx) (hL y hy) hne ht ht'
/-- a fresh object, as 'new' leaves it -/
theorem OView.newObj (V : OView Z n0 h os) (hn : n0 ≤ h.size) (E : Ext h h') (A : Exa Z h' h.size C) (D : ∀ {O nm d : String} {ty : FieldType}, Laid Z a0 C O nm d → parseFieldDescriptor d = some ty → Fld Z h' h.size O nm d (defaultValue ty))
    (hL : ∀ x ∈ ns, Laid Z a0 C x.1 x.2.1 x.2.2) (hd : ns.map (fun x => (parseFieldDescriptor x.2.2).map defaultValue) = vs.map some) (hnm : ns.Pairwise (fun x y => x.2.1 ≠ y.2.1)) : OView Z n0 h' ((h.size, Sum.inl (C, ns, vs)) :: os) := by
  have hs : ∀ x ∈ ns, (parseFieldDescriptor x.2.2).isSome = true := fun x hx => by
    have h1 : (parseFieldDescriptor x.2.2).map defaultValue ∈ vs.map some := hd ▸ List.mem_map.mpr ⟨x, hx, rfl⟩
    obtain ⟨w, -, h2⟩ := List.mem_map.mp h1
    cases hp : parseFieldDescriptor x.2.2 with
    | none => rw [hp] at h2; cases h2
    | some t => rfl
  refine V.cons hn E A.lt (OHold.obj A (own_pair hL hs hnm) fun j k w e1 e2 => ?_)
  have h1 : (ns.map (fun x => (parseFieldDescriptor x.2.2).map defaultValue))[j]? = some ((parseFieldDescriptor k.2.2).map defaultValue) := by rw [List.getElem?_map, e1]; rfl
  have h2 : (vs.map some)[j]? = some (some w) := by rw [List.getElem?_map, e2]; rfl
  rw [hd, h2] at h1
  have h3 := Option.some.inj h1
  cases hp : parseFieldDescriptor k.2.2 with
  | none => rw [hp] at h3; cases h3
  | some t =>
    rw [hp] at h3
    cases Option.some.inj h3
    exact D (hL k (List.mem_of_getElem? e1)) hp
/-- a fresh array -/
theorem OView.newArr (V : OView Z n0 h os) (hn : n0 ≤ h.size) (E : Ext h h') {cA : ClassId} {z : Int32} (A : Arr Z h' h.size (newA cA ty z) ty) (k : Nat) (hk : z.toNatClampNeg = k) : OView Z n0 h' ((h.size, Sum.inr (ty, List.replicate k (defaultValue ty))) :: os) := by
  refine V.cons hn E A.lt (OHold.arr A ?_)
  rw [← hk]; simp [newA]
theorem own_inb {cl : Cell} {vs : List Value} (hs : cl.slots.toList = vs) {j : Int32} (k : Nat) (hj : j.toInt = (k : Int)) (hk : k < vs.length) : ¬ (j < 0 ∨ cl.slots.size ≤ j.toNatClampNeg) := by
  have h1 : cl.slots.size = vs.length := by rw [← hs]; simp
  have e0 : (0 : Int32).toInt = 0 := rfl
  rw [h1]
  simp only [Int32.lt_iff_toInt_lt, Int32.toNatClampNeg, hj, e0]
  omega
theorem own_clamp {j : Int32} (k : Nat) (hj : j.toInt = (k : Int)) : j.toNatClampNeg = k := by simp only [Int32.toNatClampNeg, hj]; omega
theorem own_get {cl : Cell} {vs : List Value} (hs : cl.slots.toList = vs) {j : Int32} (k : Nat) (hj : j.toInt = (k : Int)) {v : Value} (hv : vs[k]? = some v) : cl.slots[j.toNatClampNeg]? = some v := by
  rw [own_clamp k hj, ← Array.getElem?_toList, hs]; exact hv
theorem own_wr {vs : List Value} {j : Int32} (k : Nat) (hj : j.toInt = (k : Int)) (W : Wr h h' a j.toNatClampNeg v) : Wr h h' a k v := by rw [own_clamp k hj] at W; exact W
theorem own_len {cl : Cell} {vs : List Value} (hs : cl.slots.toList = vs) : cl.slots.size = vs.length := by rw [← hs]; simp
end OwnKit
/-! OWN KIT, third part: arrays of ints and longs as lists, read and written at a place that is an int -/
section OwnSym
variable {p : Program} {l : Launch} {e : Env} {R : Room} {s : State} {m : MethodId} {args : Array Value} {below : List Frame} {meth : Method} {c : Code} {T : State} {locs : List Loc} {cells slots : Nat} {Z : State} {a0 : Array Value} {h h' : Heap} {n0 : Nat}
def gi (C : List Int32) (j : Int32) : Int32 := C.getD j.toNatClampNeg 0
def si (C : List Int32) (j x : Int32) : List Int32 := C.set j.toNatClampNeg x
def gj (C : List Int64) (j : Int32) : Int64 := C.getD j.toNatClampNeg 0
def sj (C : List Int64) (j : Int32) (x : Int64) : List Int64 := C.set j.toNatClampNeg x
theorem si_len (C : List Int32) (j x : Int32) : (si C j x).length = C.length := by simp [si]
theorem sj_len (C : List Int64) (j : Int32) (x : Int64) : (sj C j x).length = C.length := by simp [sj]
/-- the place lies in an array of n -/
def inb (n : Nat) (j : Int32) : Prop := 0 ≤ j.toInt ∧ j.toInt < (n : Int)
instance (n : Nat) (j : Int32) : Decidable (inb n j) := by unfold inb; exact inferInstance
theorem own_sin {cl : Cell} {vs : List Value} (hs : cl.slots.toList = vs) {n : Nat} (hl : vs.length = n) {j : Int32} (hj : inb n j) : ¬ (j < 0 ∨ cl.slots.size ≤ j.toNatClampNeg) := by
  have h1 : cl.slots.size = n := by rw [← hl, ← hs]; simp
  have e0 : (0 : Int32).toInt = 0 := rfl
  obtain ⟨h2, h3⟩ := hj
  rw [h1]
  simp only [Int32.lt_iff_toInt_lt, Int32.toNatClampNeg, e0]
  omega
theorem own_sgetI {cl : Cell} {C : List Int32} (hs : cl.slots.toList = C.map Value.int) {n : Nat} (hl : C.length = n) {j : Int32} (hj : inb n j) : cl.slots[j.toNatClampNeg]? = some (.int (gi C j)) := by
  obtain ⟨h2, h3⟩ := hj
  have h4 : j.toNatClampNeg < C.length := by simp only [Int32.toNatClampNeg]; omega
  rw [← Array.getElem?_toList, hs, List.getElem?_map, gi, List.getD_eq_getElem?_getD, List.getElem?_eq_getElem h4]; rfl
theorem own_sgetJ {cl : Cell} {C : List Int64} (hs : cl.slots.toList = C.map Value.long) {n : Nat} (hl : C.length = n) {j : Int32} (hj : inb n j) : cl.slots[j.toNatClampNeg]? = some (.long (gj C j)) := by
  obtain ⟨h2, h3⟩ := hj
  have h4 : j.toNatClampNeg < C.length := by simp only [Int32.toNatClampNeg]; omega
  rw [← Array.getElem?_toList, hs, List.getElem?_map, gj, List.getD_eq_getElem?_getD, List.getElem?_eq_getElem h4]; rfl
theorem OView.putI (V : OView Z n0 h os) (i : Nat) {a : Addr} {C : List Int32} (hq : os[i]? = some (a, Sum.inr (.int, C.map Value.int))) {j x : Int32} (W : Wr h h' a j.toNatClampNeg (.int x)) : OView Z n0 h' (os.set i (a, Sum.inr (.int, (si C j x).map Value.int))) := by
  have := V.putA i hq W
  rw [← List.map_set] at this
  exact this
theorem OView.putJ (V : OView Z n0 h os) (i : Nat) {a : Addr} {C : List Int64} (hq : os[i]? = some (a, Sum.inr (.long, C.map Value.long))) {j : Int32} {x : Int64} (W : Wr h h' a j.toNatClampNeg (.long x)) : OView Z n0 h' (os.set i (a, Sum.inr (.long, (sj C j x).map Value.long))) := by
  have := V.putA i hq W
  rw [← List.map_set] at this
  exact this
theorem OGets.cutI {P : State → Outcome → Prop} {U : State} (C : Int32 → Prop) {f : Int32 → State} (k : ∀ t, C t → OGets p e below P (f t)) (g : (∀ t, C t → OGets p e below P (f t)) → OGets p e below P U) : OGets p e below P U := g k
theorem own_mvM {own host : String} {index : Nat} {y : MethodName} (hZ : Z.Warmed39 s.vm) (w : (Cond.methodLinkNest own index y host).before a0 Z = true) : (Cond.methodLinkNest own index y host).before args s = true := (Cond.methodLinkNest_wide hZ w :)
/-- a private method of a nest mate, by its contract -/
theorem own_nest (X : Stand p l e R s m args below meth c T locs cells slots) (hexec : p.tables.exec = Jvm.exec) {own host : String} {index : Nat} {y : MethodName} {bytes : ByteArray} {maxL : Nat} {ret : Option FieldType} {kk : Nat}
    (hown : s.vm.findClass own = some m.cls) (hlink : (Cond.methodLinkNest own index y host).before args s = true) (hinst : (Cond.instanceMethod y).before args s = true) (hi : (Cond.instantiable y.cls kk).before args s = true)
    (hpriv : s.PrivateAt y) (hcode : (Cond.code y bytes maxL ret).before args s = true) (hy : y.cls ≠ "java/lang/invoke/MethodHandle" ∧ y.cls ≠ "java/lang/invoke/VarHandle")
    {W : Nat} {Pre : Pt → Array Value → Prop} {Post : Pt → Array Value → Option Value → Pt → Prop} (hK : Back l R p e below s args y 3 W Pre Post)
    {g : JFrame} (hg : g.method = m) (hsize : g.locals.size = c.maxLocals) {a : Addr} {cell : Cell} (hcell : T.heap[a]? = some cell) (hobj : ∀ q, cell.vm ≠ .statics q)
    {argsL rest : List Value} (hlen : ∀ sig, parseMethodDescriptor y.desc = some sig → argsL.length = sig.parameters.length)
    (hstack : g.stack = argsL.reverse ++ .ref a :: rest) (hW : 2 * g.monitorRoom + (rest.map fun v => v.category).sum ≤ W) (hdg : decode c.code g.pc = .ok (.invokevirtual index, 3))
    (hpre : ∀ vm₁, s.WarmedH vm₁ → Pre ⟨T.setVm vm₁, locs, cells, slots⟩ (.ref a :: argsL).toArray) :
    ∃ (v : Option Value) (vm₁ : Vm) (B : Pt), s.WarmedH vm₁ ∧ Stand p l e R s m args below meth c B.U B.locs B.cells B.slots ∧ Post ⟨T.setVm vm₁, locs, cells, slots⟩ (.ref a :: argsL).toArray v B ∧
      Steps p.tables e below (T.setTop g) (B.U.setTop { g with pc := g.pc + 3, stack := v.toList ++ rest }) := by
  obtain ⟨mk, methM, hnamed, hmethM, hstM, habM⟩ := Cond.instanceMethod_spec hinst
  obtain ⟨methM', cM, hmethM', -, -, -, -, -, -, hsigM⟩ := Cond.code_spec hnamed hcode
  cases hmethM.symm.trans hmethM'
  obtain ⟨cI, kI, i1, i2, i3, i4⟩ := Cond.instantiable_spec hi
  have hcls := findClass_of_methodNamed hnamed
  cases i1.symm.trans hcls
  have hselP : selectMethod e.platform s.vm cell.cls mk = .method mk := selectMethod_private hmethM (hpriv mk methM hnamed hmethM)
  have hni : kI.isInterface = false := (Bool.or_eq_false_iff.mp i4.1).1
  obtain ⟨vm₁, X₁, hstep₁⟩ := X.invokevirtualNest hexec hown hlink hnamed hmethM hstM i2 hni hy (a := a) (cell := cell) hcell hobj hselP hmethM habM i2 hni (g := g) hg (argsL := argsL) (rest := rest) (hlen _ hsigM) hstack hdg
  obtain ⟨v, B, X', hpost, hsteps⟩ := hK m meth c ⟨T.setVm vm₁, locs, cells, slots⟩ { g with stack := rest } (.invokevirtual index) mk (.ref a :: argsL).toArray X₁ hg hsize hdg hW (X₁.named hnamed) (hpre vm₁ X₁.warmed)
  exact ⟨v, vm₁, B, X₁.warmed, X', hpost, hstep₁ _ fun acts => by rw [doInvoke_state]; exact hsteps⟩
end OwnSym
def ns_StackCounts : List (String × String × String) := [("com/example/pelt/pelt/StackCounts", "period", "I"), ("com/example/pelt/pelt/StackCounts", "targetsUpTo", "[I"), ("com/example/pelt/pelt/StackCounts", "covering", "[I"), ("com/example/pelt/pelt/StackCounts", "blockCovering", "[I"), ("com/example/pelt/pelt/StackCounts", "targetsBelowEvery", "[J"), ("com/example/pelt/pelt/StackCounts", "height", "I")]
theorem lay_ns_StackCounts {Z : State} {a0 : Array Value} (hw : ∀ d ∈ tables_1, d.before a0 Z = true) : ∀ x ∈ ns_StackCounts, Laid Z a0 "com/example/pelt/pelt/StackCounts" x.1 x.2.1 x.2.2 := by
  intro x hx
  simp only [ns_StackCounts, List.mem_cons, List.not_mem_nil, or_false] at hx
  rcases hx with rfl | rfl | rfl | rfl | rfl | rfl
  · exact Or.inr (hw _ (List.mem_of_getElem? (i := 12) rfl))
  · exact Or.inr (hw _ (List.mem_of_getElem? (i := 15) rfl))
  · exact Or.inr (hw _ (List.mem_of_getElem? (i := 17) rfl))
  · exact Or.inr (hw _ (List.mem_of_getElem? (i := 19) rfl))
  · exact Or.inr (hw _ (List.mem_of_getElem? (i := 21) rfl))
  · exact Or.inl (hw _ (List.mem_of_getElem? (i := 28) rfl))
def ns_StackCounts_2 : List (String × String × String) := [("com/example/pelt/pelt/StackCounts$2", "this$0", "Lcom/example/pelt/pelt/StackCounts;"), ("com/example/pelt/pelt/StackCounts$2", "val$positions", "Lcom/example/pelt/pelt/Strand;")]
theorem lay_ns_StackCounts_2 {Z : State} {a0 : Array Value} (hw : ∀ d ∈ tables_1, d.before a0 Z = true) : ∀ x ∈ ns_StackCounts_2, Laid Z a0 "com/example/pelt/pelt/StackCounts$2" x.1 x.2.1 x.2.2 := by
  intro x hx
  simp only [ns_StackCounts_2, List.mem_cons, List.not_mem_nil, or_false] at hx
  rcases hx with rfl | rfl
  · exact Or.inr (hw _ (List.mem_of_getElem? (i := 63) rfl))
  · exact Or.inr (hw _ (List.mem_of_getElem? (i := 65) rfl))
def ns_Strand : List (String × String × String) := [("com/example/pelt/pelt/Strand", "least", "I"), ("com/example/pelt/pelt/Strand", "most", "I"), ("com/example/pelt/pelt/Strand", "period", "I"), ("com/example/pelt/pelt/Strand", "phase", "I"), ("com/example/pelt/pelt/Strand", "width", "I")]
abbrev oC (a : Addr) (v : List Value) : Addr × OObj := (a, Sum.inl ("com/example/pelt/pelt/StackCounts", ns_StackCounts, v))
abbrev oX (a : Addr) (v : List Value) : Addr × OObj := (a, Sum.inl ("com/example/pelt/pelt/StackCounts$2", ns_StackCounts_2, v))
abbrev oS (a : Addr) (v : List Value) : Addr × OObj := (a, Sum.inl ("com/example/pelt/pelt/Strand", ns_Strand, v))
abbrev oA (a : Addr) (v : List Int32) : Addr × OObj := (a, Sum.inr (.int, (v.map Value.int)))
abbrev oJ (a : Addr) (v : List Int64) : Addr × OObj := (a, Sum.inr (.long, (v.map Value.long)))
theorem lay_ns_Strand {Z : State} {a0 : Array Value} (hw : ∀ d ∈ tables_1, d.before a0 Z = true) : ∀ x ∈ ns_Strand, Laid Z a0 "com/example/pelt/pelt/Strand" x.1 x.2.1 x.2.2 := by
  intro x hx
  simp only [ns_Strand, List.mem_cons, List.not_mem_nil, or_false] at hx
  rcases hx with rfl | rfl | rfl | rfl | rfl
  · exact Or.inr (hw _ (List.mem_of_getElem? (i := 42) rfl))
  · exact Or.inr (hw _ (List.mem_of_getElem? (i := 44) rfl))
  · exact Or.inr (hw _ (List.mem_of_getElem? (i := 46) rfl))
  · exact Or.inr (hw _ (List.mem_of_getElem? (i := 48) rfl))
  · exact Or.inr (hw _ (List.mem_of_getElem? (i := 50) rfl))
theorem pn_0 : plainName "java/lang/Record" = true := by first | (simp [plainName, overriddenIn]; done) | decide +kernel
theorem dj30m1_0 : decode jdk_30_method_1_code 0 = .ok (.aload_n 0, 1) := by decide +kernel
theorem dj30m1_1 : decode jdk_30_method_1_code 1 = .ok (.invokespecial 1, 3) := by decide +kernel
theorem dj30m1_4 : decode jdk_30_method_1_code 4 = .ok (.return_, 1) := by decide +kernel
theorem ef_rec (m : MethodId) (x0 : Addr) : entryFrame m #[(.ref x0)] 1 = mkF m 0 #[.val (.ref x0)] [] := by first | (simp [entryFrame, mkF, argsToLocals, Value.category]; done) | rfl
def Q_rec (Z : State) (ar : Addr) (h0 : Heap) (n0 : Nat) (v : Option Value) (h : Heap) (L : List Loc) : Prop := v = none ∧ L = [] ∧ h = h0
set_option maxRecDepth 65536 in
set_option maxHeartbeats 40000000 in
theorem rm_rec (l : Launch) (Z : State) (a0 : Array Value) (hw : ∀ d ∈ tables_1, d.before a0 Z = true) (ws : List Jvm.Cond) (ar : Addr) (h0 : Heap) (n0 : Nat) (Z0 : n0 ≤ h0.size) :
    MetFree l (⟨"java/lang/Record", "<init>", "()V"⟩ : MethodName) (head1 (Jvm.Cond.code (⟨"java/lang/Record", "<init>", "()V"⟩ : MethodName) jdk_30_method_1_code 1 none :: ws) ({ frames := 1, cells := 0, slots := 0, locals := 12 } : Room)) (fun a_ U => a_ = #[(.ref ar)] ∧ Z.Warmed39 U.vm ∧ U.heap = h0) (fun _ _ _ _ _ => True) (fun _ U o U' => ∃ v L, o = .returned v ∧ Q_rec Z ar h0 n0 v U'.heap L ∧ FrameEnd U o U' L ({ frames := 1, cells := 0, slots := 0, locals := 12 } : Room).cells ({ frames := 1, cells := 0, slots := 0, locals := 12 } : Room).slots) := by
  refine MetFree.of_bodySF (plainFor_of_name pn_0) hisR ?_
  intro p e s m args below meth c s₁ Bd hml0 hP hK
  obtain ⟨rfl, hZ, hh⟩ := hP
  have hx := Bd.exec
  have hby := Bd.bytes
  have hlk : meth.locks = false := Bd.notSynchronized
  have hml : c.maxLocals = 1 := hml0
  have hown : s.vm.findClass "java/lang/Record" = some m.cls := findClass_of_methodNamed Bd.named
  have hnm := (name_of_methodNamed Bd.named Bd.method).1
  have X0 : Stand p l e ({ frames := 1, cells := 0, slots := 0, locals := 12 } : Room) s m #[(.ref ar)] below meth c s₁ [] 0 0 := Stand.of_body Bd
  have e0 : s₁.heap = h0 := by rw [← hh, Bd.state]; rfl
  have N0 := Fr.nil n0
  show OGets p e below (OLeaves s (Q_rec Z ar h0 n0 ) ({ frames := 1, cells := 0, slots := 0, locals := 12 } : Room).cells ({ frames := 1, cells := 0, slots := 0, locals := 12 } : Room).slots) _
  refine OGets.enter (ef_rec m ar) ?_
  show OGets p e below _ (s₁.setTop (mkF m 0 #[.val (.ref ar)] []))
  refine OGets.step (fun _ => XS.aloadN X0.here hx rfl (hb hby dj30m1_0) rfl rfl) ?_
  obtain ⟨T1, X1, e1, st1⟩ := initO X0 hx hZ hown (hw _ (List.mem_of_getElem? (i := 40) rfl)) (hw _ (List.mem_of_getElem? (i := 9) rfl)) (hw _ (List.mem_of_getElem? (i := 10) rfl)) e0 (g := (mkF m 1 #[.val (.ref ar)] [(.ref ar)])) rfl (by rw [hml]; rfl) rfl (hb hby dj30m1_1) (by decide) (W := 0) (by show 2 * 0 + _ ≤ _; exact Nat.le_of_eq rfl) (by decide)
  refine OGets.step st1 ?_
  refine OGets.retV X1 hx hlk Bd.returns (hb hby dj30m1_4) (Nat.le_of_ble_eq_true rfl) (Nat.le_of_ble_eq_true rfl) ?_
  exact ⟨rfl, rfl, e1⟩
theorem pn_1 : plainName "com/example/pelt/pelt/Strand" = true := by first | (simp [plainName, overriddenIn]; done) | decide +kernel
theorem d84m1_0 : decode prog_84_method_1_code 0 = .ok (.aload_n 0, 1) := by decide +kernel
theorem d84m1_1 : decode prog_84_method_1_code 1 = .ok (.invokespecial 1, 3) := by decide +kernel
theorem pd_2 : parseMethodDescriptor "()V" = some ⟨[], none⟩ := by decide +kernel
theorem d84m1_4 : decode prog_84_method_1_code 4 = .ok (.aload_n 0, 1) := by decide +kernel
theorem d84m1_5 : decode prog_84_method_1_code 5 = .ok (.iload_n 1, 1) := by decide +kernel
theorem d84m1_6 : decode prog_84_method_1_code 6 = .ok (.putfield 7, 3) := by decide +kernel
theorem d84m1_9 : decode prog_84_method_1_code 9 = .ok (.aload_n 0, 1) := by decide +kernel
theorem d84m1_10 : decode prog_84_method_1_code 10 = .ok (.iload_n 2, 1) := by decide +kernel
theorem d84m1_11 : decode prog_84_method_1_code 11 = .ok (.putfield 13, 3) := by decide +kernel
theorem d84m1_14 : decode prog_84_method_1_code 14 = .ok (.aload_n 0, 1) := by decide +kernel
theorem d84m1_15 : decode prog_84_method_1_code 15 = .ok (.iload_n 3, 1) := by decide +kernel
theorem d84m1_16 : decode prog_84_method_1_code 16 = .ok (.putfield 16, 3) := by decide +kernel
theorem d84m1_19 : decode prog_84_method_1_code 19 = .ok (.aload_n 0, 1) := by decide +kernel
theorem d84m1_20 : decode prog_84_method_1_code 20 = .ok (.iload 4, 2) := by decide +kernel
theorem d84m1_22 : decode prog_84_method_1_code 22 = .ok (.putfield 19, 3) := by decide +kernel
theorem d84m1_25 : decode prog_84_method_1_code 25 = .ok (.aload_n 0, 1) := by decide +kernel
theorem d84m1_26 : decode prog_84_method_1_code 26 = .ok (.iload 5, 2) := by decide +kernel
theorem d84m1_28 : decode prog_84_method_1_code 28 = .ok (.putfield 22, 3) := by decide +kernel
theorem d84m1_31 : decode prog_84_method_1_code 31 = .ok (.return_, 1) := by decide +kernel
theorem ef_sin (m : MethodId) (x0 : Addr) (x1 : Int32) (x2 : Int32) (x3 : Int32) (x4 : Int32) (x5 : Int32) : entryFrame m #[(.ref x0), (.int x1), (.int x2), (.int x3), (.int x4), (.int x5)] 6 = mkF m 0 #[.val (.ref x0), .val (.int x1), .val (.int x2), .val (.int x3), .val (.int x4), .val (.int x5)] [] := by first | (simp [entryFrame, mkF, argsToLocals, Value.category]; done) | rfl
def Q_sin (Z : State) (ast : Addr) (lo : Int32) (hi : Int32) (per : Int32) (ph : Int32) (wd : Int32) (h0 : Heap) (n0 : Nat) (F : List (Addr × OObj)) (v : Option Value) (h : Heap) (L : List Loc) : Prop := v = none ∧ Fr n0 L ∧ OView Z n0 h (oS ast [(.int lo), (.int hi), (.int per), (.int ph), (.int wd)] :: F)
set_option maxRecDepth 65536 in
set_option maxHeartbeats 40000000 in
theorem rm_sin (l : Launch) (Z : State) (a0 : Array Value) (hw : ∀ d ∈ tables_1, d.before a0 Z = true) (ws : List Jvm.Cond) (ast : Addr) (lo : Int32) (hi : Int32) (per : Int32) (ph : Int32) (wd : Int32) (h0 : Heap) (n0 : Nat) (F : List (Addr × OObj)) (Z0 : n0 ≤ h0.size) (V0 : OView Z n0 h0 (oS ast [(.int 0), (.int 0), (.int 0), (.int 0), (.int 0)] :: F)) :
    MetFree l (⟨"com/example/pelt/pelt/Strand", "<init>", "(IIIII)V"⟩ : MethodName) (head1 (Jvm.Cond.code (⟨"com/example/pelt/pelt/Strand", "<init>", "(IIIII)V"⟩ : MethodName) prog_84_method_1_code 6 none :: ws) ({ frames := 2, cells := 0, slots := 0, locals := 24 } : Room)) (fun a_ U => a_ = #[(.ref ast), (.int lo), (.int hi), (.int per), (.int ph), (.int wd)] ∧ Z.Warmed39 U.vm ∧ U.heap = h0) (fun _ _ _ _ _ => True) (fun _ U o U' => ∃ v L, o = .returned v ∧ Q_sin Z ast lo hi per ph wd h0 n0 F v U'.heap L ∧ FrameEnd U o U' L ({ frames := 2, cells := 0, slots := 0, locals := 24 } : Room).cells ({ frames := 2, cells := 0, slots := 0, locals := 24 } : Room).slots) := by
  refine MetFree.of_bodySF (plainFor_of_name pn_1) hisR ?_
  intro p e s m args below meth c s₁ Bd hml0 hP hK
  obtain ⟨rfl, hZ, hh⟩ := hP
  have hx := Bd.exec
  have hby := Bd.bytes
  have hlk : meth.locks = false := Bd.notSynchronized
  have hml : c.maxLocals = 6 := hml0
  have hown : s.vm.findClass "com/example/pelt/pelt/Strand" = some m.cls := findClass_of_methodNamed Bd.named
  have hnm := (name_of_methodNamed Bd.named Bd.method).1
  have X0 : Stand p l e ({ frames := 2, cells := 0, slots := 0, locals := 24 } : Room) s m #[(.ref ast), (.int lo), (.int hi), (.int per), (.int ph), (.int wd)] below meth c s₁ [] 0 0 := Stand.of_body Bd
  have e0 : s₁.heap = h0 := by rw [← hh, Bd.state]; rfl
  have N0 := Fr.nil n0
  show OGets p e below (OLeaves s (Q_sin Z ast lo hi per ph wd h0 n0 F ) ({ frames := 2, cells := 0, slots := 0, locals := 24 } : Room).cells ({ frames := 2, cells := 0, slots := 0, locals := 24 } : Room).slots) _
  refine OGets.enter (ef_sin m ast lo hi per ph wd) ?_
  show OGets p e below _ (s₁.setTop (mkF m 0 #[.val (.ref ast), .val (.int lo), .val (.int hi), .val (.int per), .val (.int ph), .val (.int wd)] []))
  refine OGets.step (fun _ => XS.aloadN X0.here hx rfl (hb hby d84m1_0) rfl rfl) ?_
  obtain ⟨_, _, ⟨T2, L2, k2, n2⟩, -, X2, ⟨Lc2, hQ2, l2, y2, z2⟩, st2⟩ := X0.specialBack hx (y := (⟨"java/lang/Record", "<init>", "()V"⟩ : MethodName)) rfl hown (mvT hZ (hw _ (List.mem_of_getElem? (i := 35) rfl))) (mvT hZ (hw _ (List.mem_of_getElem? (i := 36) rfl))) (mvT hZ (hw _ (List.mem_of_getElem? (i := 39) rfl))) (by decide) (backOf (W := 0) (rm_rec l Z a0 hw [] ast h0 n0  Z0 ) hZ (hw _ (List.mem_of_getElem? (i := 39) rfl)) (hw _ (List.mem_of_getElem? (i := 38) rfl)) (by decide) (by decide)) (g := (mkF m 1 #[.val (.ref ast), .val (.int lo), .val (.int hi), .val (.int per), .val (.int ph), .val (.int wd)] [(.ref ast)])) rfl (by rw [hml]; rfl) (Steps.refl _) (a := ast) (argsL := []) (rest := []) (lenOf pd_2 rfl) rfl (by show 2 * 0 + _ ≤ _; exact Nat.le_of_eq rfl) (hb hby d84m1_1) (fun _ _ => ⟨rfl, e0, Nat.le_of_ble_eq_true rfl, Nat.le_of_ble_eq_true rfl⟩)
  dsimp only [Pt.U, Pt.locs, Pt.cells, Pt.slots] at X2 l2 y2 z2 st2 hQ2
  rw [l2, y2, z2] at X2
  obtain ⟨rfl, rfl, e2⟩ := hQ2
  have N2 := Fr.app N0 (Fr.nil n0)
  refine OGets.after st2 ?_
  refine OGets.step (fun _ => XS.aloadN X2.here hx rfl (hb hby d84m1_4) rfl rfl) ?_
  refine OGets.step (fun _ => XS.iloadN X2.here hx rfl (hb hby d84m1_5) rfl) ?_
  obtain ⟨T3, h3, X3, e3, W3, st3⟩ := putF X2 hx hZ hown (host := "") (Or.inl (hw _ (List.mem_of_getElem? (i := 41) rfl))) Via.refl e2 (V0.fld 0 rfl 0 rfl rfl) (V0.exa 0 rfl) (Or.inr ⟨(hw _ (List.mem_of_getElem? (i := 42) rfl)), rfl, hnm⟩) (hw _ (List.mem_of_getElem? (i := 30) rfl)) (ty := .int) (by decide) rfl rfl (g := (mkF m 6 #[.val (.ref ast), .val (.int lo), .val (.int hi), .val (.int per), .val (.int ph), .val (.int wd)] [(.int lo), (.ref ast)])) rfl rfl (hb hby d84m1_6)
  have V3 : OView Z n0 h3 (oS ast [(.int lo), (.int 0), (.int 0), (.int 0), (.int 0)] :: F) := V0.putF 0 rfl 0 rfl W3
  have N3 := Fr.snoc X3 N2 (V0.old 0 rfl)
  have Z3 : n0 ≤ h3.size := by rw [W3.size]; exact Z0
  refine OGets.step st3 ?_
  refine OGets.step (fun _ => XS.aloadN X3.here hx rfl (hb hby d84m1_9) rfl rfl) ?_
  refine OGets.step (fun _ => XS.iloadN X3.here hx rfl (hb hby d84m1_10) rfl) ?_
  obtain ⟨T4, h4, X4, e4, W4, st4⟩ := putF X3 hx hZ hown (host := "") (Or.inl (hw _ (List.mem_of_getElem? (i := 43) rfl))) Via.refl e3 (V3.fld 0 rfl 1 rfl rfl) (V3.exa 0 rfl) (Or.inr ⟨(hw _ (List.mem_of_getElem? (i := 44) rfl)), rfl, hnm⟩) (hw _ (List.mem_of_getElem? (i := 30) rfl)) (ty := .int) (by decide) rfl rfl (g := (mkF m 11 #[.val (.ref ast), .val (.int lo), .val (.int hi), .val (.int per), .val (.int ph), .val (.int wd)] [(.int hi), (.ref ast)])) rfl rfl (hb hby d84m1_11)
  have V4 : OView Z n0 h4 (oS ast [(.int lo), (.int hi), (.int 0), (.int 0), (.int 0)] :: F) := V3.putF 0 rfl 1 rfl W4
  have N4 := Fr.snoc X4 N3 (V3.old 0 rfl)
  have Z4 : n0 ≤ h4.size := by rw [W4.size]; exact Z3
  refine OGets.step st4 ?_
  refine OGets.step (fun _ => XS.aloadN X4.here hx rfl (hb hby d84m1_14) rfl rfl) ?_
  refine OGets.step (fun _ => XS.iloadN X4.here hx rfl (hb hby d84m1_15) rfl) ?_
  obtain ⟨T5, h5, X5, e5, W5, st5⟩ := putF X4 hx hZ hown (host := "") (Or.inl (hw _ (List.mem_of_getElem? (i := 45) rfl))) Via.refl e4 (V4.fld 0 rfl 2 rfl rfl) (V4.exa 0 rfl) (Or.inr ⟨(hw _ (List.mem_of_getElem? (i := 46) rfl)), rfl, hnm⟩) (hw _ (List.mem_of_getElem? (i := 30) rfl)) (ty := .int) (by decide) rfl rfl (g := (mkF m 16 #[.val (.ref ast), .val (.int lo), .val (.int hi), .val (.int per), .val (.int ph), .val (.int wd)] [(.int per), (.ref ast)])) rfl rfl (hb hby d84m1_16)
  have V5 : OView Z n0 h5 (oS ast [(.int lo), (.int hi), (.int per), (.int 0), (.int 0)] :: F) := V4.putF 0 rfl 2 rfl W5
  have N5 := Fr.snoc X5 N4 (V4.old 0 rfl)
  have Z5 : n0 ≤ h5.size := by rw [W5.size]; exact Z4
  refine OGets.step st5 ?_
  refine OGets.step (fun _ => XS.aloadN X5.here hx rfl (hb hby d84m1_19) rfl rfl) ?_
  refine OGets.step (fun _ => XS.iload X5.here hx rfl (hb hby d84m1_20) rfl) ?_
  obtain ⟨T6, h6, X6, e6, W6, st6⟩ := putF X5 hx hZ hown (host := "") (Or.inl (hw _ (List.mem_of_getElem? (i := 47) rfl))) Via.refl e5 (V5.fld 0 rfl 3 rfl rfl) (V5.exa 0 rfl) (Or.inr ⟨(hw _ (List.mem_of_getElem? (i := 48) rfl)), rfl, hnm⟩) (hw _ (List.mem_of_getElem? (i := 30) rfl)) (ty := .int) (by decide) rfl rfl (g := (mkF m 22 #[.val (.ref ast), .val (.int lo), .val (.int hi), .val (.int per), .val (.int ph), .val (.int wd)] [(.int ph), (.ref ast)])) rfl rfl (hb hby d84m1_22)
  have V6 : OView Z n0 h6 (oS ast [(.int lo), (.int hi), (.int per), (.int ph), (.int 0)] :: F) := V5.putF 0 rfl 3 rfl W6
  have N6 := Fr.snoc X6 N5 (V5.old 0 rfl)
  have Z6 : n0 ≤ h6.size := by rw [W6.size]; exact Z5
  refine OGets.step st6 ?_
  refine OGets.step (fun _ => XS.aloadN X6.here hx rfl (hb hby d84m1_25) rfl rfl) ?_
  refine OGets.step (fun _ => XS.iload X6.here hx rfl (hb hby d84m1_26) rfl) ?_
  obtain ⟨T7, h7, X7, e7, W7, st7⟩ := putF X6 hx hZ hown (host := "") (Or.inl (hw _ (List.mem_of_getElem? (i := 49) rfl))) Via.refl e6 (V6.fld 0 rfl 4 rfl rfl) (V6.exa 0 rfl) (Or.inr ⟨(hw _ (List.mem_of_getElem? (i := 50) rfl)), rfl, hnm⟩) (hw _ (List.mem_of_getElem? (i := 30) rfl)) (ty := .int) (by decide) rfl rfl (g := (mkF m 28 #[.val (.ref ast), .val (.int lo), .val (.int hi), .val (.int per), .val (.int ph), .val (.int wd)] [(.int wd), (.ref ast)])) rfl rfl (hb hby d84m1_28)
  have V7 : OView Z n0 h7 (oS ast [(.int lo), (.int hi), (.int per), (.int ph), (.int wd)] :: F) := V6.putF 0 rfl 4 rfl W7
  have N7 := Fr.snoc X7 N6 (V6.old 0 rfl)
  have Z7 : n0 ≤ h7.size := by rw [W7.size]; exact Z6
  refine OGets.step st7 ?_
  refine OGets.retV X7 hx hlk Bd.returns (hb hby d84m1_31) (Nat.le_of_ble_eq_true rfl) (Nat.le_of_ble_eq_true rfl) ?_
  rw [e7]
  exact ⟨rfl, N7, V7⟩
theorem pn_3 : plainName "com/example/pelt/pelt/StackCounts" = true := by first | (simp [plainName, overriddenIn]; done) | decide +kernel
theorem d78m1_0 : decode prog_78_method_1_code 0 = .ok (.aload_n 0, 1) := by decide +kernel
theorem d78m1_1 : decode prog_78_method_1_code 1 = .ok (.invokespecial 1, 3) := by decide +kernel
theorem d78m1_4 : decode prog_78_method_1_code 4 = .ok (.aload_n 0, 1) := by decide +kernel
theorem d78m1_5 : decode prog_78_method_1_code 5 = .ok (.iload_n 2, 1) := by decide +kernel
theorem d78m1_6 : decode prog_78_method_1_code 6 = .ok (.putfield 7, 3) := by decide +kernel
theorem d78m1_9 : decode prog_78_method_1_code 9 = .ok (.aload_n 0, 1) := by decide +kernel
theorem d78m1_10 : decode prog_78_method_1_code 10 = .ok (.iload_n 1, 1) := by decide +kernel
theorem d78m1_11 : decode prog_78_method_1_code 11 = .ok (.newarray .int, 2) := by decide +kernel
theorem d78m1_13 : decode prog_78_method_1_code 13 = .ok (.putfield 13, 3) := by decide +kernel
theorem d78m1_16 : decode prog_78_method_1_code 16 = .ok (.aload_n 0, 1) := by decide +kernel
theorem d78m1_17 : decode prog_78_method_1_code 17 = .ok (.iload_n 1, 1) := by decide +kernel
theorem d78m1_18 : decode prog_78_method_1_code 18 = .ok (.newarray .int, 2) := by decide +kernel
theorem d78m1_20 : decode prog_78_method_1_code 20 = .ok (.putfield 17, 3) := by decide +kernel
theorem d78m1_23 : decode prog_78_method_1_code 23 = .ok (.aload_n 0, 1) := by decide +kernel
theorem d78m1_24 : decode prog_78_method_1_code 24 = .ok (.iload_n 2, 1) := by decide +kernel
theorem d78m1_25 : decode prog_78_method_1_code 25 = .ok (.iconst 1, 1) := by decide +kernel
theorem d78m1_26 : decode prog_78_method_1_code 26 = .ok (.if_icmp .le 14, 3) := by decide +kernel
theorem d78m1_29 : decode prog_78_method_1_code 29 = .ok (.iload_n 2, 1) := by decide +kernel
theorem d78m1_30 : decode prog_78_method_1_code 30 = .ok (.iload_n 1, 1) := by decide +kernel
theorem d78m1_31 : decode prog_78_method_1_code 31 = .ok (.if_icmp .ge 9, 3) := by decide +kernel
theorem d78m1_40 : decode prog_78_method_1_code 40 = .ok (.aconst_null, 1) := by decide +kernel
theorem d78m1_41 : decode prog_78_method_1_code 41 = .ok (.putfield 20, 3) := by decide +kernel
theorem d78m1_44 : decode prog_78_method_1_code 44 = .ok (.aload_n 0, 1) := by decide +kernel
theorem d78m1_45 : decode prog_78_method_1_code 45 = .ok (.aload_n 0, 1) := by decide +kernel
theorem d78m1_46 : decode prog_78_method_1_code 46 = .ok (.getfield 20, 3) := by decide +kernel
theorem d78m1_49 : decode prog_78_method_1_code 49 = .ok (.ifnonnull 7, 3) := by decide +kernel
theorem d78m1_52 : decode prog_78_method_1_code 52 = .ok (.aconst_null, 1) := by decide +kernel
theorem d78m1_53 : decode prog_78_method_1_code 53 = .ok (.goto 8, 3) := by decide +kernel
theorem d78m1_61 : decode prog_78_method_1_code 61 = .ok (.putfield 23, 3) := by decide +kernel
theorem d78m1_64 : decode prog_78_method_1_code 64 = .ok (.return_, 1) := by decide +kernel
theorem ef_initN (m : MethodId) (x0 : Addr) (x1 : Int32) (x2 : Int32) : entryFrame m #[(.ref x0), (.int x1), (.int x2)] 3 = mkF m 0 #[.val (.ref x0), .val (.int x1), .val (.int x2)] [] := by first | (simp [entryFrame, mkF, argsToLocals, Value.category]; done) | rfl
def Q_initN (Z : State) (ao : Addr) (per : Int32) (h0 : Heap) (n0 : Nat) (F : List (Addr × OObj)) (v : Option Value) (h : Heap) (L : List Loc) : Prop := v = none ∧ Fr n0 L ∧ ∃ au ac : Addr, OView Z n0 h (oA ac (List.replicate 5 (0 : Int32)) :: oA au (List.replicate 5 (0 : Int32)) :: oC ao [(.int per), (.ref au), (.ref ac), .null, .null, (.int 0)] :: F)
set_option maxRecDepth 65536 in
set_option maxHeartbeats 40000000 in
theorem rm_initN (l : Launch) (Z : State) (a0 : Array Value) (hw : ∀ d ∈ tables_1, d.before a0 Z = true) (ws : List Jvm.Cond) (ao : Addr) (per : Int32) (h0 : Heap) (n0 : Nat) (F : List (Addr × OObj)) (Z0 : n0 ≤ h0.size) (hN : ¬ ((1 : Int32) < per ∧ per < (5 : Int32))) (V0 : OView Z n0 h0 (oC ao [(.int 0), .null, .null, .null, .null, (.int 0)] :: F)) :
    MetFree l (⟨"com/example/pelt/pelt/StackCounts", "<init>", "(II)V"⟩ : MethodName) (head1 (Jvm.Cond.code (⟨"com/example/pelt/pelt/StackCounts", "<init>", "(II)V"⟩ : MethodName) prog_78_method_1_code 3 none :: ws) ({ frames := 1, cells := 2, slots := 10, locals := 12 } : Room)) (fun a_ U => a_ = #[(.ref ao), (.int 5), (.int per)] ∧ Z.Warmed39 U.vm ∧ U.heap = h0) (fun _ _ _ _ _ => True) (fun _ U o U' => ∃ v L, o = .returned v ∧ Q_initN Z ao per h0 n0 F v U'.heap L ∧ FrameEnd U o U' L ({ frames := 1, cells := 2, slots := 10, locals := 12 } : Room).cells ({ frames := 1, cells := 2, slots := 10, locals := 12 } : Room).slots) := by
  refine MetFree.of_bodySF (plainFor_of_name pn_3) hisR ?_
  intro p e s m args below meth c s₁ Bd hml0 hP hK
  obtain ⟨rfl, hZ, hh⟩ := hP
  have hx := Bd.exec
  have hby := Bd.bytes
  have hlk : meth.locks = false := Bd.notSynchronized
  have hml : c.maxLocals = 3 := hml0
  have hown : s.vm.findClass "com/example/pelt/pelt/StackCounts" = some m.cls := findClass_of_methodNamed Bd.named
  have hnm := (name_of_methodNamed Bd.named Bd.method).1
  have X0 : Stand p l e ({ frames := 1, cells := 2, slots := 10, locals := 12 } : Room) s m #[(.ref ao), (.int 5), (.int per)] below meth c s₁ [] 0 0 := Stand.of_body Bd
  have e0 : s₁.heap = h0 := by rw [← hh, Bd.state]; rfl
  have N0 := Fr.nil n0
  show OGets p e below (OLeaves s (Q_initN Z ao per h0 n0 F ) ({ frames := 1, cells := 2, slots := 10, locals := 12 } : Room).cells ({ frames := 1, cells := 2, slots := 10, locals := 12 } : Room).slots) _
  refine OGets.enter (ef_initN m ao (5 : Int32) per) ?_
  show OGets p e below _ (s₁.setTop (mkF m 0 #[.val (.ref ao), .val (.int 5), .val (.int per)] []))
  refine OGets.step (fun _ => XS.aloadN X0.here hx rfl (hb hby d78m1_0) rfl rfl) ?_
  obtain ⟨T8, X8, e8, st8⟩ := initO X0 hx hZ hown (hw _ (List.mem_of_getElem? (i := 8) rfl)) (hw _ (List.mem_of_getElem? (i := 9) rfl)) (hw _ (List.mem_of_getElem? (i := 10) rfl)) e0 (g := (mkF m 1 #[.val (.ref ao), .val (.int 5), .val (.int per)] [(.ref ao)])) rfl (by rw [hml]; rfl) rfl (hb hby d78m1_1) (by decide) (W := 0) (by show 2 * 0 + _ ≤ _; exact Nat.le_of_eq rfl) (by decide)
  refine OGets.step st8 ?_
  refine OGets.step (fun _ => XS.aloadN X8.here hx rfl (hb hby d78m1_4) rfl rfl) ?_
  refine OGets.step (fun _ => XS.iloadN X8.here hx rfl (hb hby d78m1_5) rfl) ?_
  obtain ⟨T9, h9, X9, e9, W9, st9⟩ := putF X8 hx hZ hown (host := "") (Or.inl (hw _ (List.mem_of_getElem? (i := 11) rfl))) Via.refl e8 (V0.fld 0 rfl 0 rfl rfl) (V0.exa 0 rfl) (Or.inr ⟨(hw _ (List.mem_of_getElem? (i := 12) rfl)), rfl, hnm⟩) (hw _ (List.mem_of_getElem? (i := 3) rfl)) (ty := .int) (by decide) rfl rfl (g := (mkF m 6 #[.val (.ref ao), .val (.int 5), .val (.int per)] [(.int per), (.ref ao)])) rfl rfl (hb hby d78m1_6)
  have V9 : OView Z n0 h9 (oC ao [(.int per), .null, .null, .null, .null, (.int 0)] :: F) := V0.putF 0 rfl 0 rfl W9
  have N9 := Fr.snoc X9 N0 (V0.old 0 rfl)
  have Z9 : n0 ≤ h9.size := by rw [W9.size]; exact Z0
  refine OGets.step st9 ?_
  refine OGets.step (fun _ => XS.aloadN X9.here hx rfl (hb hby d78m1_9) rfl rfl) ?_
  refine OGets.step (fun _ => XS.iloadN X9.here hx rfl (hb hby d78m1_10) rfl) ?_
  obtain ⟨T10, h10, k10, X10, e10, E10, A10, st10⟩ := newP X9 hx hZ (hw _ (List.mem_of_getElem? (i := 13) rfl)) e9 (g := (mkF m 11 #[.val (.ref ao), .val (.int 5), .val (.int per)] [(.int 5), (.ref ao)])) rfl (hb hby d78m1_11) rfl (by decide) (cap := 5) (by decide) (by decide) (by decide) (by decide)
  have V10' := V9.newArr Z9 E10 A10 5 rfl
  have Z10 : n0 ≤ h10.size := Nat.le_trans Z9 E10.1
  obtain ⟨b10, g10⟩ : ∃ z, z = h9.size := ⟨_, rfl⟩
  rw [← g10] at V10' st10
  have V10 : OView Z n0 h10 (((b10, Sum.inr (.int, [(.int 0), (.int 0), (.int 0), (.int 0), (.int 0)])) : Addr × OObj) :: oC ao [(.int per), .null, .null, .null, .null, (.int 0)] :: F) := V10'
  refine OGets.step st10 ?_
  obtain ⟨T11, h11, X11, e11, W11, st11⟩ := putF X10 hx hZ hown (host := "") (Or.inl (hw _ (List.mem_of_getElem? (i := 14) rfl))) Via.refl e10 (V10.fld 1 rfl 1 rfl rfl) (V10.exa 1 rfl) (Or.inr ⟨(hw _ (List.mem_of_getElem? (i := 15) rfl)), rfl, hnm⟩) (hw _ (List.mem_of_getElem? (i := 3) rfl)) (ty := (.array .int)) (by decide) rfl rfl (g := (mkF m 13 #[.val (.ref ao), .val (.int 5), .val (.int per)] [(.ref b10), (.ref ao)])) rfl rfl (hb hby d78m1_13)
  have V11 : OView Z n0 h11 (((b10, Sum.inr (.int, [(.int 0), (.int 0), (.int 0), (.int 0), (.int 0)])) : Addr × OObj) :: oC ao [(.int per), (.ref b10), .null, .null, .null, (.int 0)] :: F) := V10.putF 1 rfl 1 rfl W11
  have N11 := Fr.snoc X11 N9 (V10.old 1 rfl)
  have Z11 : n0 ≤ h11.size := by rw [W11.size]; exact Z10
  refine OGets.step st11 ?_
  refine OGets.step (fun _ => XS.aloadN X11.here hx rfl (hb hby d78m1_16) rfl rfl) ?_
  refine OGets.step (fun _ => XS.iloadN X11.here hx rfl (hb hby d78m1_17) rfl) ?_
  obtain ⟨T12, h12, k12, X12, e12, E12, A12, st12⟩ := newP X11 hx hZ (hw _ (List.mem_of_getElem? (i := 13) rfl)) e11 (g := (mkF m 18 #[.val (.ref ao), .val (.int 5), .val (.int per)] [(.int 5), (.ref ao)])) rfl (hb hby d78m1_18) rfl (by decide) (cap := 5) (by decide) (by decide) (by decide) (by decide)
  have V12' := V11.newArr Z11 E12 A12 5 rfl
  have Z12 : n0 ≤ h12.size := Nat.le_trans Z11 E12.1
  obtain ⟨b12, g12⟩ : ∃ z, z = h11.size := ⟨_, rfl⟩
  rw [← g12] at V12' st12
  have V12 : OView Z n0 h12 (((b12, Sum.inr (.int, [(.int 0), (.int 0), (.int 0), (.int 0), (.int 0)])) : Addr × OObj) :: ((b10, Sum.inr (.int, [(.int 0), (.int 0), (.int 0), (.int 0), (.int 0)])) : Addr × OObj) :: oC ao [(.int per), (.ref b10), .null, .null, .null, (.int 0)] :: F) := V12'
  refine OGets.step st12 ?_
  obtain ⟨T13, h13, X13, e13, W13, st13⟩ := putF X12 hx hZ hown (host := "") (Or.inl (hw _ (List.mem_of_getElem? (i := 16) rfl))) Via.refl e12 (V12.fld 2 rfl 2 rfl rfl) (V12.exa 2 rfl) (Or.inr ⟨(hw _ (List.mem_of_getElem? (i := 17) rfl)), rfl, hnm⟩) (hw _ (List.mem_of_getElem? (i := 3) rfl)) (ty := (.array .int)) (by decide) rfl rfl (g := (mkF m 20 #[.val (.ref ao), .val (.int 5), .val (.int per)] [(.ref b12), (.ref ao)])) rfl rfl (hb hby d78m1_20)
  have V13 : OView Z n0 h13 (((b12, Sum.inr (.int, [(.int 0), (.int 0), (.int 0), (.int 0), (.int 0)])) : Addr × OObj) :: ((b10, Sum.inr (.int, [(.int 0), (.int 0), (.int 0), (.int 0), (.int 0)])) : Addr × OObj) :: oC ao [(.int per), (.ref b10), (.ref b12), .null, .null, (.int 0)] :: F) := V12.putF 2 rfl 2 rfl W13
  have N13 := Fr.snoc X13 N11 (V12.old 2 rfl)
  have Z13 : n0 ≤ h13.size := by rw [W13.size]; exact Z12
  refine OGets.step st13 ?_
  refine OGets.step (fun _ => XS.aloadN X13.here hx rfl (hb hby d78m1_23) rfl rfl) ?_
  refine OGets.step (fun _ => XS.iloadN X13.here hx rfl (hb hby d78m1_24) rfl) ?_
  refine OGets.step (fun _ => XS.iconst X13.here hx rfl (hb hby d78m1_25)) ?_
  by_cases hc26_14 : (1 : Int32) < per
  · refine OGets.step (fun _ => XS.icmpNo X13.here hx rfl (hb hby d78m1_26) rfl (tlt hc26_14).2.2.2) ?_
    show OGets p e below _ (T13.setTop (mkF m 29 #[.val (.ref ao), .val (.int 5), .val (.int per)] [(.ref ao)]))
    refine OGets.step (fun _ => XS.iloadN X13.here hx rfl (hb hby d78m1_29) rfl) ?_
    refine OGets.step (fun _ => XS.iloadN X13.here hx rfl (hb hby d78m1_30) rfl) ?_
    refine OGets.step (fun _ => XS.icmpYes X13.here hx rfl (pc0 := 31) (pc' := 40) rfl (hb hby d78m1_31) rfl (flt (fun q => hN ⟨hc26_14, q⟩ : ¬ (per < (5 : Int32)))).2.1 (by decide) (by decide)) ?_
    refine OGets.step (fun _ => XS.aconstNull X13.here hx rfl (hb hby d78m1_40)) ?_
    obtain ⟨T16, h16, X16, e16, W16, st16⟩ := putF X13 hx hZ hown (host := "") (Or.inl (hw _ (List.mem_of_getElem? (i := 18) rfl))) Via.refl e13 (V13.fld 2 rfl 3 rfl rfl) (V13.exa 2 rfl) (Or.inr ⟨(hw _ (List.mem_of_getElem? (i := 19) rfl)), rfl, hnm⟩) (hw _ (List.mem_of_getElem? (i := 3) rfl)) (ty := (.array .int)) (by decide) rfl rfl (g := (mkF m 41 #[.val (.ref ao), .val (.int 5), .val (.int per)] [.null, (.ref ao)])) rfl rfl (hb hby d78m1_41)
    have V16 : OView Z n0 h16 (((b12, Sum.inr (.int, [(.int 0), (.int 0), (.int 0), (.int 0), (.int 0)])) : Addr × OObj) :: ((b10, Sum.inr (.int, [(.int 0), (.int 0), (.int 0), (.int 0), (.int 0)])) : Addr × OObj) :: oC ao [(.int per), (.ref b10), (.ref b12), .null, .null, (.int 0)] :: F) := V13.putF 2 rfl 3 rfl W16
    have N16 := Fr.snoc X16 N13 (V13.old 2 rfl)
    have Z16 : n0 ≤ h16.size := by rw [W16.size]; exact Z13
    refine OGets.step st16 ?_
    refine OGets.step (fun _ => XS.aloadN X16.here hx rfl (hb hby d78m1_44) rfl rfl) ?_
    refine OGets.step (fun _ => XS.aloadN X16.here hx rfl (hb hby d78m1_45) rfl rfl) ?_
    obtain ⟨T17, X17, e17, st17⟩ := getF X16 hx hZ hown (host := "") (Or.inl (hw _ (List.mem_of_getElem? (i := 18) rfl))) Via.refl e16 (V16.fld 2 rfl 3 rfl rfl) (g := (mkF m 46 #[.val (.ref ao), .val (.int 5), .val (.int per)] [(.ref ao), (.ref ao)])) rfl rfl (hb hby d78m1_46)
    refine OGets.step st17 ?_
    refine OGets.step (fun _ => XS.ifnonnullNo X17.here hx rfl (hb hby d78m1_49) rfl) ?_
    refine OGets.step (fun _ => XS.aconstNull X17.here hx rfl (hb hby d78m1_52)) ?_
    refine OGets.step (fun _ => XS.goto X17.here hx rfl (pc0 := 53) (pc' := 61) rfl (hb hby d78m1_53) (by decide) (by decide)) ?_
    obtain ⟨T18, h18, X18, e18, W18, st18⟩ := putF X17 hx hZ hown (host := "") (Or.inl (hw _ (List.mem_of_getElem? (i := 20) rfl))) Via.refl e17 (V16.fld 2 rfl 4 rfl rfl) (V16.exa 2 rfl) (Or.inr ⟨(hw _ (List.mem_of_getElem? (i := 21) rfl)), rfl, hnm⟩) (hw _ (List.mem_of_getElem? (i := 3) rfl)) (ty := (.array .long)) (by decide) rfl rfl (g := (mkF m 61 #[.val (.ref ao), .val (.int 5), .val (.int per)] [.null, (.ref ao)])) rfl rfl (hb hby d78m1_61)
    have V18 : OView Z n0 h18 (((b12, Sum.inr (.int, [(.int 0), (.int 0), (.int 0), (.int 0), (.int 0)])) : Addr × OObj) :: ((b10, Sum.inr (.int, [(.int 0), (.int 0), (.int 0), (.int 0), (.int 0)])) : Addr × OObj) :: oC ao [(.int per), (.ref b10), (.ref b12), .null, .null, (.int 0)] :: F) := V16.putF 2 rfl 4 rfl W18
    have N18 := Fr.snoc X18 N16 (V16.old 2 rfl)
    have Z18 : n0 ≤ h18.size := by rw [W18.size]; exact Z16
    refine OGets.step st18 ?_
    refine OGets.retV X18 hx hlk Bd.returns (hb hby d78m1_64) (Nat.le_of_ble_eq_true rfl) (Nat.le_of_ble_eq_true rfl) ?_
    rw [e18]
    exact ⟨rfl, N18, b10, b12, V18⟩
  · refine OGets.step (fun _ => XS.icmpYes X13.here hx rfl (pc0 := 26) (pc' := 40) rfl (hb hby d78m1_26) rfl (flt hc26_14).2.2.2 (by decide) (by decide)) ?_
    show OGets p e below _ (T13.setTop (mkF m 40 #[.val (.ref ao), .val (.int 5), .val (.int per)] [(.ref ao)]))
    refine OGets.step (fun _ => XS.aconstNull X13.here hx rfl (hb hby d78m1_40)) ?_
    obtain ⟨T19, h19, X19, e19, W19, st19⟩ := putF X13 hx hZ hown (host := "") (Or.inl (hw _ (List.mem_of_getElem? (i := 18) rfl))) Via.refl e13 (V13.fld 2 rfl 3 rfl rfl) (V13.exa 2 rfl) (Or.inr ⟨(hw _ (List.mem_of_getElem? (i := 19) rfl)), rfl, hnm⟩) (hw _ (List.mem_of_getElem? (i := 3) rfl)) (ty := (.array .int)) (by decide) rfl rfl (g := (mkF m 41 #[.val (.ref ao), .val (.int 5), .val (.int per)] [.null, (.ref ao)])) rfl rfl (hb hby d78m1_41)
    have V19 : OView Z n0 h19 (((b12, Sum.inr (.int, [(.int 0), (.int 0), (.int 0), (.int 0), (.int 0)])) : Addr × OObj) :: ((b10, Sum.inr (.int, [(.int 0), (.int 0), (.int 0), (.int 0), (.int 0)])) : Addr × OObj) :: oC ao [(.int per), (.ref b10), (.ref b12), .null, .null, (.int 0)] :: F) := V13.putF 2 rfl 3 rfl W19
    have N19 := Fr.snoc X19 N13 (V13.old 2 rfl)
    have Z19 : n0 ≤ h19.size := by rw [W19.size]; exact Z13
    refine OGets.step st19 ?_
    refine OGets.step (fun _ => XS.aloadN X19.here hx rfl (hb hby d78m1_44) rfl rfl) ?_
    refine OGets.step (fun _ => XS.aloadN X19.here hx rfl (hb hby d78m1_45) rfl rfl) ?_
    obtain ⟨T20, X20, e20, st20⟩ := getF X19 hx hZ hown (host := "") (Or.inl (hw _ (List.mem_of_getElem? (i := 18) rfl))) Via.refl e19 (V19.fld 2 rfl 3 rfl rfl) (g := (mkF m 46 #[.val (.ref ao), .val (.int 5), .val (.int per)] [(.ref ao), (.ref ao)])) rfl rfl (hb hby d78m1_46)
    refine OGets.step st20 ?_
    refine OGets.step (fun _ => XS.ifnonnullNo X20.here hx rfl (hb hby d78m1_49) rfl) ?_
    refine OGets.step (fun _ => XS.aconstNull X20.here hx rfl (hb hby d78m1_52)) ?_
    refine OGets.step (fun _ => XS.goto X20.here hx rfl (pc0 := 53) (pc' := 61) rfl (hb hby d78m1_53) (by decide) (by decide)) ?_
    obtain ⟨T21, h21, X21, e21, W21, st21⟩ := putF X20 hx hZ hown (host := "") (Or.inl (hw _ (List.mem_of_getElem? (i := 20) rfl))) Via.refl e20 (V19.fld 2 rfl 4 rfl rfl) (V19.exa 2 rfl) (Or.inr ⟨(hw _ (List.mem_of_getElem? (i := 21) rfl)), rfl, hnm⟩) (hw _ (List.mem_of_getElem? (i := 3) rfl)) (ty := (.array .long)) (by decide) rfl rfl (g := (mkF m 61 #[.val (.ref ao), .val (.int 5), .val (.int per)] [.null, (.ref ao)])) rfl rfl (hb hby d78m1_61)
    have V21 : OView Z n0 h21 (((b12, Sum.inr (.int, [(.int 0), (.int 0), (.int 0), (.int 0), (.int 0)])) : Addr × OObj) :: ((b10, Sum.inr (.int, [(.int 0), (.int 0), (.int 0), (.int 0), (.int 0)])) : Addr × OObj) :: oC ao [(.int per), (.ref b10), (.ref b12), .null, .null, (.int 0)] :: F) := V19.putF 2 rfl 4 rfl W21
    have N21 := Fr.snoc X21 N19 (V19.old 2 rfl)
    have Z21 : n0 ≤ h21.size := by rw [W21.size]; exact Z19
    refine OGets.step st21 ?_
    refine OGets.retV X21 hx hlk Bd.returns (hb hby d78m1_64) (Nat.le_of_ble_eq_true rfl) (Nat.le_of_ble_eq_true rfl) ?_
    rw [e21]
    exact ⟨rfl, N21, b10, b12, V21⟩
theorem d78m1_34 : decode prog_78_method_1_code 34 = .ok (.iload_n 1, 1) := by decide +kernel
theorem d78m1_35 : decode prog_78_method_1_code 35 = .ok (.newarray .int, 2) := by decide +kernel
theorem d78m1_37 : decode prog_78_method_1_code 37 = .ok (.goto 4, 3) := by decide +kernel
theorem d78m1_56 : decode prog_78_method_1_code 56 = .ok (.iload_n 1, 1) := by decide +kernel
theorem d78m1_57 : decode prog_78_method_1_code 57 = .ok (.iconst 1, 1) := by decide +kernel
theorem d78m1_58 : decode prog_78_method_1_code 58 = .ok (.iadd, 1) := by decide +kernel
theorem d78m1_59 : decode prog_78_method_1_code 59 = .ok (.newarray .long, 2) := by decide +kernel
theorem ef_initB (m : MethodId) (x0 : Addr) (x1 : Int32) (x2 : Int32) : entryFrame m #[(.ref x0), (.int x1), (.int x2)] 3 = mkF m 0 #[.val (.ref x0), .val (.int x1), .val (.int x2)] [] := by first | (simp [entryFrame, mkF, argsToLocals, Value.category]; done) | rfl
def Q_initB (Z : State) (ao : Addr) (per : Int32) (h0 : Heap) (n0 : Nat) (F : List (Addr × OObj)) (v : Option Value) (h : Heap) (L : List Loc) : Prop := v = none ∧ Fr n0 L ∧ ∃ au ac ab ay : Addr, OView Z n0 h (oJ ay (List.replicate 6 (0 : Int64)) :: oA ab (List.replicate 5 (0 : Int32)) :: oA ac (List.replicate 5 (0 : Int32)) :: oA au (List.replicate 5 (0 : Int32)) :: oC ao [(.int per), (.ref au), (.ref ac), (.ref ab), (.ref ay), (.int 0)] :: F)
set_option maxRecDepth 65536 in
set_option maxHeartbeats 40000000 in
theorem rm_initB (l : Launch) (Z : State) (a0 : Array Value) (hw : ∀ d ∈ tables_1, d.before a0 Z = true) (ws : List Jvm.Cond) (ao : Addr) (per : Int32) (h0 : Heap) (n0 : Nat) (F : List (Addr × OObj)) (Z0 : n0 ≤ h0.size) (hB : (1 : Int32) < per ∧ per < (5 : Int32)) (V0 : OView Z n0 h0 (oC ao [(.int 0), .null, .null, .null, .null, (.int 0)] :: F)) :
    MetFree l (⟨"com/example/pelt/pelt/StackCounts", "<init>", "(II)V"⟩ : MethodName) (head1 (Jvm.Cond.code (⟨"com/example/pelt/pelt/StackCounts", "<init>", "(II)V"⟩ : MethodName) prog_78_method_1_code 3 none :: ws) ({ frames := 1, cells := 4, slots := 21, locals := 12 } : Room)) (fun a_ U => a_ = #[(.ref ao), (.int 5), (.int per)] ∧ Z.Warmed39 U.vm ∧ U.heap = h0) (fun _ _ _ _ _ => True) (fun _ U o U' => ∃ v L, o = .returned v ∧ Q_initB Z ao per h0 n0 F v U'.heap L ∧ FrameEnd U o U' L ({ frames := 1, cells := 4, slots := 21, locals := 12 } : Room).cells ({ frames := 1, cells := 4, slots := 21, locals := 12 } : Room).slots) := by
  refine MetFree.of_bodySF (plainFor_of_name pn_3) hisR ?_
  intro p e s m args below meth c s₁ Bd hml0 hP hK
  obtain ⟨rfl, hZ, hh⟩ := hP
  have hx := Bd.exec
  have hby := Bd.bytes
  have hlk : meth.locks = false := Bd.notSynchronized
  have hml : c.maxLocals = 3 := hml0
  have hown : s.vm.findClass "com/example/pelt/pelt/StackCounts" = some m.cls := findClass_of_methodNamed Bd.named
  have hnm := (name_of_methodNamed Bd.named Bd.method).1
  have X0 : Stand p l e ({ frames := 1, cells := 4, slots := 21, locals := 12 } : Room) s m #[(.ref ao), (.int 5), (.int per)] below meth c s₁ [] 0 0 := Stand.of_body Bd
  have e0 : s₁.heap = h0 := by rw [← hh, Bd.state]; rfl
  have N0 := Fr.nil n0
  show OGets p e below (OLeaves s (Q_initB Z ao per h0 n0 F ) ({ frames := 1, cells := 4, slots := 21, locals := 12 } : Room).cells ({ frames := 1, cells := 4, slots := 21, locals := 12 } : Room).slots) _
  refine OGets.enter (ef_initB m ao (5 : Int32) per) ?_
  show OGets p e below _ (s₁.setTop (mkF m 0 #[.val (.ref ao), .val (.int 5), .val (.int per)] []))
  refine OGets.step (fun _ => XS.aloadN X0.here hx rfl (hb hby d78m1_0) rfl rfl) ?_
  obtain ⟨T22, X22, e22, st22⟩ := initO X0 hx hZ hown (hw _ (List.mem_of_getElem? (i := 8) rfl)) (hw _ (List.mem_of_getElem? (i := 9) rfl)) (hw _ (List.mem_of_getElem? (i := 10) rfl)) e0 (g := (mkF m 1 #[.val (.ref ao), .val (.int 5), .val (.int per)] [(.ref ao)])) rfl (by rw [hml]; rfl) rfl (hb hby d78m1_1) (by decide) (W := 0) (by show 2 * 0 + _ ≤ _; exact Nat.le_of_eq rfl) (by decide)
  refine OGets.step st22 ?_
  refine OGets.step (fun _ => XS.aloadN X22.here hx rfl (hb hby d78m1_4) rfl rfl) ?_
  refine OGets.step (fun _ => XS.iloadN X22.here hx rfl (hb hby d78m1_5) rfl) ?_
  obtain ⟨T23, h23, X23, e23, W23, st23⟩ := putF X22 hx hZ hown (host := "") (Or.inl (hw _ (List.mem_of_getElem? (i := 11) rfl))) Via.refl e22 (V0.fld 0 rfl 0 rfl rfl) (V0.exa 0 rfl) (Or.inr ⟨(hw _ (List.mem_of_getElem? (i := 12) rfl)), rfl, hnm⟩) (hw _ (List.mem_of_getElem? (i := 3) rfl)) (ty := .int) (by decide) rfl rfl (g := (mkF m 6 #[.val (.ref ao), .val (.int 5), .val (.int per)] [(.int per), (.ref ao)])) rfl rfl (hb hby d78m1_6)
  have V23 : OView Z n0 h23 (oC ao [(.int per), .null, .null, .null, .null, (.int 0)] :: F) := V0.putF 0 rfl 0 rfl W23
  have N23 := Fr.snoc X23 N0 (V0.old 0 rfl)
  have Z23 : n0 ≤ h23.size := by rw [W23.size]; exact Z0
  refine OGets.step st23 ?_
  refine OGets.step (fun _ => XS.aloadN X23.here hx rfl (hb hby d78m1_9) rfl rfl) ?_
  refine OGets.step (fun _ => XS.iloadN X23.here hx rfl (hb hby d78m1_10) rfl) ?_
  obtain ⟨T24, h24, k24, X24, e24, E24, A24, st24⟩ := newP X23 hx hZ (hw _ (List.mem_of_getElem? (i := 13) rfl)) e23 (g := (mkF m 11 #[.val (.ref ao), .val (.int 5), .val (.int per)] [(.int 5), (.ref ao)])) rfl (hb hby d78m1_11) rfl (by decide) (cap := 5) (by decide) (by decide) (by decide) (by decide)
  have V24' := V23.newArr Z23 E24 A24 5 rfl
  have Z24 : n0 ≤ h24.size := Nat.le_trans Z23 E24.1
  obtain ⟨b24, g24⟩ : ∃ z, z = h23.size := ⟨_, rfl⟩
  rw [← g24] at V24' st24
  have V24 : OView Z n0 h24 (((b24, Sum.inr (.int, [(.int 0), (.int 0), (.int 0), (.int 0), (.int 0)])) : Addr × OObj) :: oC ao [(.int per), .null, .null, .null, .null, (.int 0)] :: F) := V24'
  refine OGets.step st24 ?_
  obtain ⟨T25, h25, X25, e25, W25, st25⟩ := putF X24 hx hZ hown (host := "") (Or.inl (hw _ (List.mem_of_getElem? (i := 14) rfl))) Via.refl e24 (V24.fld 1 rfl 1 rfl rfl) (V24.exa 1 rfl) (Or.inr ⟨(hw _ (List.mem_of_getElem? (i := 15) rfl)), rfl, hnm⟩) (hw _ (List.mem_of_getElem? (i := 3) rfl)) (ty := (.array .int)) (by decide) rfl rfl (g := (mkF m 13 #[.val (.ref ao), .val (.int 5), .val (.int per)] [(.ref b24), (.ref ao)])) rfl rfl (hb hby d78m1_13)
  have V25 : OView Z n0 h25 (((b24, Sum.inr (.int, [(.int 0), (.int 0), (.int 0), (.int 0), (.int 0)])) : Addr × OObj) :: oC ao [(.int per), (.ref b24), .null, .null, .null, (.int 0)] :: F) := V24.putF 1 rfl 1 rfl W25
  have N25 := Fr.snoc X25 N23 (V24.old 1 rfl)
  have Z25 : n0 ≤ h25.size := by rw [W25.size]; exact Z24
  refine OGets.step st25 ?_
  refine OGets.step (fun _ => XS.aloadN X25.here hx rfl (hb hby d78m1_16) rfl rfl) ?_
  refine OGets.step (fun _ => XS.iloadN X25.here hx rfl (hb hby d78m1_17) rfl) ?_
  obtain ⟨T26, h26, k26, X26, e26, E26, A26, st26⟩ := newP X25 hx hZ (hw _ (List.mem_of_getElem? (i := 13) rfl)) e25 (g := (mkF m 18 #[.val (.ref ao), .val (.int 5), .val (.int per)] [(.int 5), (.ref ao)])) rfl (hb hby d78m1_18) rfl (by decide) (cap := 5) (by decide) (by decide) (by decide) (by decide)
  have V26' := V25.newArr Z25 E26 A26 5 rfl
  have Z26 : n0 ≤ h26.size := Nat.le_trans Z25 E26.1
  obtain ⟨b26, g26⟩ : ∃ z, z = h25.size := ⟨_, rfl⟩
  rw [← g26] at V26' st26
  have V26 : OView Z n0 h26 (((b26, Sum.inr (.int, [(.int 0), (.int 0), (.int 0), (.int 0), (.int 0)])) : Addr × OObj) :: ((b24, Sum.inr (.int, [(.int 0), (.int 0), (.int 0), (.int 0), (.int 0)])) : Addr × OObj) :: oC ao [(.int per), (.ref b24), .null, .null, .null, (.int 0)] :: F) := V26'
  refine OGets.step st26 ?_
  obtain ⟨T27, h27, X27, e27, W27, st27⟩ := putF X26 hx hZ hown (host := "") (Or.inl (hw _ (List.mem_of_getElem? (i := 16) rfl))) Via.refl e26 (V26.fld 2 rfl 2 rfl rfl) (V26.exa 2 rfl) (Or.inr ⟨(hw _ (List.mem_of_getElem? (i := 17) rfl)), rfl, hnm⟩) (hw _ (List.mem_of_getElem? (i := 3) rfl)) (ty := (.array .int)) (by decide) rfl rfl (g := (mkF m 20 #[.val (.ref ao), .val (.int 5), .val (.int per)] [(.ref b26), (.ref ao)])) rfl rfl (hb hby d78m1_20)
  have V27 : OView Z n0 h27 (((b26, Sum.inr (.int, [(.int 0), (.int 0), (.int 0), (.int 0), (.int 0)])) : Addr × OObj) :: ((b24, Sum.inr (.int, [(.int 0), (.int 0), (.int 0), (.int 0), (.int 0)])) : Addr × OObj) :: oC ao [(.int per), (.ref b24), (.ref b26), .null, .null, (.int 0)] :: F) := V26.putF 2 rfl 2 rfl W27
  have N27 := Fr.snoc X27 N25 (V26.old 2 rfl)
  have Z27 : n0 ≤ h27.size := by rw [W27.size]; exact Z26
  refine OGets.step st27 ?_
  refine OGets.step (fun _ => XS.aloadN X27.here hx rfl (hb hby d78m1_23) rfl rfl) ?_
  refine OGets.step (fun _ => XS.iloadN X27.here hx rfl (hb hby d78m1_24) rfl) ?_
  refine OGets.step (fun _ => XS.iconst X27.here hx rfl (hb hby d78m1_25)) ?_
  refine OGets.step (fun _ => XS.icmpNo X27.here hx rfl (hb hby d78m1_26) rfl (tlt (hB.1 : (1 : Int32) < per)).2.2.2) ?_
  refine OGets.step (fun _ => XS.iloadN X27.here hx rfl (hb hby d78m1_29) rfl) ?_
  refine OGets.step (fun _ => XS.iloadN X27.here hx rfl (hb hby d78m1_30) rfl) ?_
  refine OGets.step (fun _ => XS.icmpNo X27.here hx rfl (hb hby d78m1_31) rfl (tlt (hB.2 : per < (5 : Int32))).2.1) ?_
  refine OGets.step (fun _ => XS.iloadN X27.here hx rfl (hb hby d78m1_34) rfl) ?_
  obtain ⟨T30, h30, k30, X30, e30, E30, A30, st30⟩ := newP X27 hx hZ (hw _ (List.mem_of_getElem? (i := 13) rfl)) e27 (g := (mkF m 35 #[.val (.ref ao), .val (.int 5), .val (.int per)] [(.int 5), (.ref ao)])) rfl (hb hby d78m1_35) rfl (by decide) (cap := 5) (by decide) (by decide) (by decide) (by decide)
  have V30' := V27.newArr Z27 E30 A30 5 rfl
  have Z30 : n0 ≤ h30.size := Nat.le_trans Z27 E30.1
  obtain ⟨b30, g30⟩ : ∃ z, z = h27.size := ⟨_, rfl⟩
  rw [← g30] at V30' st30
  have V30 : OView Z n0 h30 (((b30, Sum.inr (.int, [(.int 0), (.int 0), (.int 0), (.int 0), (.int 0)])) : Addr × OObj) :: ((b26, Sum.inr (.int, [(.int 0), (.int 0), (.int 0), (.int 0), (.int 0)])) : Addr × OObj) :: ((b24, Sum.inr (.int, [(.int 0), (.int 0), (.int 0), (.int 0), (.int 0)])) : Addr × OObj) :: oC ao [(.int per), (.ref b24), (.ref b26), .null, .null, (.int 0)] :: F) := V30'
  refine OGets.step st30 ?_
  refine OGets.step (fun _ => XS.goto X30.here hx rfl (pc0 := 37) (pc' := 41) rfl (hb hby d78m1_37) (by decide) (by decide)) ?_
  obtain ⟨T31, h31, X31, e31, W31, st31⟩ := putF X30 hx hZ hown (host := "") (Or.inl (hw _ (List.mem_of_getElem? (i := 18) rfl))) Via.refl e30 (V30.fld 3 rfl 3 rfl rfl) (V30.exa 3 rfl) (Or.inr ⟨(hw _ (List.mem_of_getElem? (i := 19) rfl)), rfl, hnm⟩) (hw _ (List.mem_of_getElem? (i := 3) rfl)) (ty := (.array .int)) (by decide) rfl rfl (g := (mkF m 41 #[.val (.ref ao), .val (.int 5), .val (.int per)] [(.ref b30), (.ref ao)])) rfl rfl (hb hby d78m1_41)
  have V31 : OView Z n0 h31 (((b30, Sum.inr (.int, [(.int 0), (.int 0), (.int 0), (.int 0), (.int 0)])) : Addr × OObj) :: ((b26, Sum.inr (.int, [(.int 0), (.int 0), (.int 0), (.int 0), (.int 0)])) : Addr × OObj) :: ((b24, Sum.inr (.int, [(.int 0), (.int 0), (.int 0), (.int 0), (.int 0)])) : Addr × OObj) :: oC ao [(.int per), (.ref b24), (.ref b26), (.ref b30), .null, (.int 0)] :: F) := V30.putF 3 rfl 3 rfl W31
  have N31 := Fr.snoc X31 N27 (V30.old 3 rfl)
  have Z31 : n0 ≤ h31.size := by rw [W31.size]; exact Z30
  refine OGets.step st31 ?_
  refine OGets.step (fun _ => XS.aloadN X31.here hx rfl (hb hby d78m1_44) rfl rfl) ?_
  refine OGets.step (fun _ => XS.aloadN X31.here hx rfl (hb hby d78m1_45) rfl rfl) ?_
  obtain ⟨T32, X32, e32, st32⟩ := getF X31 hx hZ hown (host := "") (Or.inl (hw _ (List.mem_of_getElem? (i := 18) rfl))) Via.refl e31 (V31.fld 3 rfl 3 rfl rfl) (g := (mkF m 46 #[.val (.ref ao), .val (.int 5), .val (.int per)] [(.ref ao), (.ref ao)])) rfl rfl (hb hby d78m1_46)
  refine OGets.step st32 ?_
  refine OGets.step (fun _ => XS.ifnonnullYes X32.here hx rfl (pc0 := 49) (pc' := 56) rfl (hb hby d78m1_49) rfl (by decide) (by decide)) ?_
  refine OGets.step (fun _ => XS.iloadN X32.here hx rfl (hb hby d78m1_56) rfl) ?_
  refine OGets.step (fun _ => XS.iconst X32.here hx rfl (hb hby d78m1_57)) ?_
  refine OGets.step (fun _ => XS.iadd X32.here hx rfl (hb hby d78m1_58) rfl) ?_
  show OGets p e below _ (T32.setTop (mkF m 59 #[.val (.ref ao), .val (.int 5), .val (.int per)] [(.int 6), (.ref ao)]))
  obtain ⟨T33, h33, k33, X33, e33, E33, A33, st33⟩ := newP X32 hx hZ (hw _ (List.mem_of_getElem? (i := 103) rfl)) e32 (g := (mkF m 59 #[.val (.ref ao), .val (.int 5), .val (.int per)] [(.int 6), (.ref ao)])) rfl (hb hby d78m1_59) rfl (by decide) (cap := 6) (by decide) (by decide) (by decide) (by decide)
  have V33' := V31.newArr Z31 E33 A33 6 rfl
  have Z33 : n0 ≤ h33.size := Nat.le_trans Z31 E33.1
  obtain ⟨b33, g33⟩ : ∃ z, z = h31.size := ⟨_, rfl⟩
  rw [← g33] at V33' st33
  have V33 : OView Z n0 h33 (((b33, Sum.inr (.long, [(.long 0), (.long 0), (.long 0), (.long 0), (.long 0), (.long 0)])) : Addr × OObj) :: ((b30, Sum.inr (.int, [(.int 0), (.int 0), (.int 0), (.int 0), (.int 0)])) : Addr × OObj) :: ((b26, Sum.inr (.int, [(.int 0), (.int 0), (.int 0), (.int 0), (.int 0)])) : Addr × OObj) :: ((b24, Sum.inr (.int, [(.int 0), (.int 0), (.int 0), (.int 0), (.int 0)])) : Addr × OObj) :: oC ao [(.int per), (.ref b24), (.ref b26), (.ref b30), .null, (.int 0)] :: F) := V33'
  refine OGets.step st33 ?_
  obtain ⟨T34, h34, X34, e34, W34, st34⟩ := putF X33 hx hZ hown (host := "") (Or.inl (hw _ (List.mem_of_getElem? (i := 20) rfl))) Via.refl e33 (V33.fld 4 rfl 4 rfl rfl) (V33.exa 4 rfl) (Or.inr ⟨(hw _ (List.mem_of_getElem? (i := 21) rfl)), rfl, hnm⟩) (hw _ (List.mem_of_getElem? (i := 3) rfl)) (ty := (.array .long)) (by decide) rfl rfl (g := (mkF m 61 #[.val (.ref ao), .val (.int 5), .val (.int per)] [(.ref b33), (.ref ao)])) rfl rfl (hb hby d78m1_61)
  have V34 : OView Z n0 h34 (((b33, Sum.inr (.long, [(.long 0), (.long 0), (.long 0), (.long 0), (.long 0), (.long 0)])) : Addr × OObj) :: ((b30, Sum.inr (.int, [(.int 0), (.int 0), (.int 0), (.int 0), (.int 0)])) : Addr × OObj) :: ((b26, Sum.inr (.int, [(.int 0), (.int 0), (.int 0), (.int 0), (.int 0)])) : Addr × OObj) :: ((b24, Sum.inr (.int, [(.int 0), (.int 0), (.int 0), (.int 0), (.int 0)])) : Addr × OObj) :: oC ao [(.int per), (.ref b24), (.ref b26), (.ref b30), (.ref b33), (.int 0)] :: F) := V33.putF 4 rfl 4 rfl W34
  have N34 := Fr.snoc X34 N31 (V33.old 4 rfl)
  have Z34 : n0 ≤ h34.size := by rw [W34.size]; exact Z33
  refine OGets.step st34 ?_
  refine OGets.retV X34 hx hlk Bd.returns (hb hby d78m1_64) (Nat.le_of_ble_eq_true rfl) (Nat.le_of_ble_eq_true rfl) ?_
  rw [e34]
  exact ⟨rfl, N34, b24, b26, b30, b33, V34⟩
def puX (U : List Int32) (hg : Int32) : Int32 := if (0 : Int32) < hg then gi U (hg - 1) else 0
def puU (U : List Int32) (hg t : Int32) : List Int32 := si U hg (puX U hg + (if t = 0 then 0 else 1))
def puY (U : List Int32) (Y : List Int64) (per hg t : Int32) : List Int64 := sj Y (hg + 1) ((gi (puU U hg t) hg).toInt64 + (if hg + 1 < per then 0 else gj Y (hg + 1 - per)))
theorem puU_len (U : List Int32) (hg t : Int32) : (puU U hg t).length = U.length := si_len _ _ _
theorem puY_len (U : List Int32) (Y : List Int64) (per hg t : Int32) : (puY U Y per hg t).length = Y.length := sj_len _ _ _
theorem d78m3_0 : decode prog_78_method_3_code 0 = .ok (.aload_n 0, 1) := by decide +kernel
theorem d78m3_1 : decode prog_78_method_3_code 1 = .ok (.getfield 13, 3) := by decide +kernel
theorem d78m3_4 : decode prog_78_method_3_code 4 = .ok (.aload_n 0, 1) := by decide +kernel
theorem d78m3_5 : decode prog_78_method_3_code 5 = .ok (.getfield 27, 3) := by decide +kernel
theorem d78m3_8 : decode prog_78_method_3_code 8 = .ok (.aload_n 0, 1) := by decide +kernel
theorem d78m3_9 : decode prog_78_method_3_code 9 = .ok (.getfield 27, 3) := by decide +kernel
theorem d78m3_12 : decode prog_78_method_3_code 12 = .ok (.ifCond .le 17, 3) := by decide +kernel
theorem d78m3_15 : decode prog_78_method_3_code 15 = .ok (.aload_n 0, 1) := by decide +kernel
theorem d78m3_16 : decode prog_78_method_3_code 16 = .ok (.getfield 13, 3) := by decide +kernel
theorem d78m3_19 : decode prog_78_method_3_code 19 = .ok (.aload_n 0, 1) := by decide +kernel
theorem d78m3_20 : decode prog_78_method_3_code 20 = .ok (.getfield 27, 3) := by decide +kernel
theorem d78m3_23 : decode prog_78_method_3_code 23 = .ok (.iconst 1, 1) := by decide +kernel
theorem d78m3_24 : decode prog_78_method_3_code 24 = .ok (.isub, 1) := by decide +kernel
theorem d78m3_25 : decode prog_78_method_3_code 25 = .ok (.iaload, 1) := by decide +kernel
theorem d78m3_26 : decode prog_78_method_3_code 26 = .ok (.goto 4, 3) := by decide +kernel
theorem d78m3_30 : decode prog_78_method_3_code 30 = .ok (.iload_n 1, 1) := by decide +kernel
theorem d78m3_31 : decode prog_78_method_3_code 31 = .ok (.ifCond .eq 7, 3) := by decide +kernel
theorem d78m3_38 : decode prog_78_method_3_code 38 = .ok (.iconst 0, 1) := by decide +kernel
theorem d78m3_39 : decode prog_78_method_3_code 39 = .ok (.iadd, 1) := by decide +kernel
theorem d78m3_40 : decode prog_78_method_3_code 40 = .ok (.iastore, 1) := by decide +kernel
theorem d78m3_41 : decode prog_78_method_3_code 41 = .ok (.aload_n 0, 1) := by decide +kernel
theorem d78m3_42 : decode prog_78_method_3_code 42 = .ok (.getfield 17, 3) := by decide +kernel
theorem d78m3_45 : decode prog_78_method_3_code 45 = .ok (.aload_n 0, 1) := by decide +kernel
theorem d78m3_46 : decode prog_78_method_3_code 46 = .ok (.getfield 27, 3) := by decide +kernel
theorem d78m3_49 : decode prog_78_method_3_code 49 = .ok (.iconst 0, 1) := by decide +kernel
theorem d78m3_50 : decode prog_78_method_3_code 50 = .ok (.iastore, 1) := by decide +kernel
theorem d78m3_51 : decode prog_78_method_3_code 51 = .ok (.aload_n 0, 1) := by decide +kernel
theorem d78m3_52 : decode prog_78_method_3_code 52 = .ok (.getfield 20, 3) := by decide +kernel
theorem d78m3_55 : decode prog_78_method_3_code 55 = .ok (.ifnull 68, 3) := by decide +kernel
theorem d78m3_123 : decode prog_78_method_3_code 123 = .ok (.aload_n 0, 1) := by decide +kernel
theorem d78m3_124 : decode prog_78_method_3_code 124 = .ok (.dup, 1) := by decide +kernel
theorem d78m3_125 : decode prog_78_method_3_code 125 = .ok (.getfield 27, 3) := by decide +kernel
theorem d78m3_128 : decode prog_78_method_3_code 128 = .ok (.iconst 1, 1) := by decide +kernel
theorem d78m3_129 : decode prog_78_method_3_code 129 = .ok (.iadd, 1) := by decide +kernel
theorem d78m3_130 : decode prog_78_method_3_code 130 = .ok (.putfield 27, 3) := by decide +kernel
theorem d78m3_133 : decode prog_78_method_3_code 133 = .ok (.return_, 1) := by decide +kernel
theorem d78m3_34 : decode prog_78_method_3_code 34 = .ok (.iconst 1, 1) := by decide +kernel
theorem d78m3_35 : decode prog_78_method_3_code 35 = .ok (.goto 4, 3) := by decide +kernel
theorem d78m3_29 : decode prog_78_method_3_code 29 = .ok (.iconst 0, 1) := by decide +kernel
theorem ef_pushN (m : MethodId) (x0 : Addr) (x1 : Int32) : entryFrame m #[(.ref x0), (.int x1)] 2 = mkF m 0 #[.val (.ref x0), .val (.int x1)] [] := by first | (simp [entryFrame, mkF, argsToLocals, Value.category]; done) | rfl
def Q_pushN (Z : State) (ao : Addr) (au : Addr) (ac : Addr) (per : Int32) (hg : Int32) (t : Int32) (UU : List Int32) (CC : List Int32) (h0 : Heap) (n0 : Nat) (F : List (Addr × OObj)) (v : Option Value) (h : Heap) (L : List Loc) : Prop := v = none ∧ Fr n0 L ∧ OView Z n0 h (oC ao [(.int per), (.ref au), (.ref ac), .null, .null, (.int (hg + (1 : Int32)))] :: oA au (puU UU hg t) :: oA ac (si CC hg (0 : Int32)) :: F)
set_option maxRecDepth 65536 in
set_option maxHeartbeats 40000000 in
theorem rm_pushN (l : Launch) (Z : State) (a0 : Array Value) (hw : ∀ d ∈ tables_1, d.before a0 Z = true) (ws : List Jvm.Cond) (ao : Addr) (au : Addr) (ac : Addr) (per : Int32) (hg : Int32) (t : Int32) (UU : List Int32) (CC : List Int32) (h0 : Heap) (n0 : Nat) (F : List (Addr × OObj)) (Z0 : n0 ≤ h0.size) (hlU : UU.length = 5) (hlC : CC.length = 5) (hh0 : inb 5 hg) (hh1 : (0 : Int32) < hg → inb 5 (hg - (1 : Int32))) (V0 : OView Z n0 h0 (oC ao [(.int per), (.ref au), (.ref ac), .null, .null, (.int hg)] :: oA au UU :: oA ac CC :: F)) :
    MetFree l (⟨"com/example/pelt/pelt/StackCounts", "push", "(Z)V"⟩ : MethodName) (head1 (Jvm.Cond.code (⟨"com/example/pelt/pelt/StackCounts", "push", "(Z)V"⟩ : MethodName) prog_78_method_3_code 2 none :: ws) ({ frames := 0, cells := 0, slots := 0, locals := 0 } : Room)) (fun a_ U => a_ = #[(.ref ao), (.int t)] ∧ Z.Warmed39 U.vm ∧ U.heap = h0) (fun _ _ _ _ _ => True) (fun _ U o U' => ∃ v L, o = .returned v ∧ Q_pushN Z ao au ac per hg t UU CC h0 n0 F v U'.heap L ∧ FrameEnd U o U' L ({ frames := 0, cells := 0, slots := 0, locals := 0 } : Room).cells ({ frames := 0, cells := 0, slots := 0, locals := 0 } : Room).slots) := by
  refine MetFree.of_bodySF (plainFor_of_name pn_3) hisR ?_
  intro p e s m args below meth c s₁ Bd hml0 hP hK
  obtain ⟨rfl, hZ, hh⟩ := hP
  have hx := Bd.exec
  have hby := Bd.bytes
  have hlk : meth.locks = false := Bd.notSynchronized
  have hml : c.maxLocals = 2 := hml0
  have hown : s.vm.findClass "com/example/pelt/pelt/StackCounts" = some m.cls := findClass_of_methodNamed Bd.named
  have hnm := (name_of_methodNamed Bd.named Bd.method).1
  have X0 : Stand p l e ({ frames := 0, cells := 0, slots := 0, locals := 0 } : Room) s m #[(.ref ao), (.int t)] below meth c s₁ [] 0 0 := Stand.of_body Bd
  have e0 : s₁.heap = h0 := by rw [← hh, Bd.state]; rfl
  have N0 := Fr.nil n0
  show OGets p e below (OLeaves s (Q_pushN Z ao au ac per hg t UU CC h0 n0 F ) ({ frames := 0, cells := 0, slots := 0, locals := 0 } : Room).cells ({ frames := 0, cells := 0, slots := 0, locals := 0 } : Room).slots) _
  refine OGets.enter (ef_pushN m ao t) ?_
  show OGets p e below _ (s₁.setTop (mkF m 0 #[.val (.ref ao), .val (.int t)] []))
  refine OGets.step (fun _ => XS.aloadN X0.here hx rfl (hb hby d78m3_0) rfl rfl) ?_
  obtain ⟨T35, X35, e35, st35⟩ := getF X0 hx hZ hown (host := "") (Or.inl (hw _ (List.mem_of_getElem? (i := 14) rfl))) Via.refl e0 (V0.fld 0 rfl 1 rfl rfl) (g := (mkF m 1 #[.val (.ref ao), .val (.int t)] [(.ref ao)])) rfl rfl (hb hby d78m3_1)
  refine OGets.step st35 ?_
  refine OGets.step (fun _ => XS.aloadN X35.here hx rfl (hb hby d78m3_4) rfl rfl) ?_
  obtain ⟨T36, X36, e36, st36⟩ := getF X35 hx hZ hown (host := "") (Or.inl (hw _ (List.mem_of_getElem? (i := 27) rfl))) Via.refl e35 (V0.fld 0 rfl 5 rfl rfl) (g := (mkF m 5 #[.val (.ref ao), .val (.int t)] [(.ref ao), (.ref au)])) rfl rfl (hb hby d78m3_5)
  refine OGets.step st36 ?_
  refine OGets.step (fun _ => XS.aloadN X36.here hx rfl (hb hby d78m3_8) rfl rfl) ?_
  obtain ⟨T37, X37, e37, st37⟩ := getF X36 hx hZ hown (host := "") (Or.inl (hw _ (List.mem_of_getElem? (i := 27) rfl))) Via.refl e36 (V0.fld 0 rfl 5 rfl rfl) (g := (mkF m 9 #[.val (.ref ao), .val (.int t)] [(.ref ao), (.int hg), (.ref au)])) rfl rfl (hb hby d78m3_9)
  refine OGets.step st37 ?_
  by_cases hc12_38 : (0 : Int32) < hg
  · refine OGets.step (fun _ => XS.ifNo X37.here hx rfl (hb hby d78m3_12) rfl ((if0 _ _).trans (tlt hc12_38).2.2.2)) ?_
    show OGets p e below _ (T37.setTop (mkF m 15 #[.val (.ref ao), .val (.int t)] [(.int hg), (.ref au)]))
    refine OGets.step (fun _ => XS.aloadN X37.here hx rfl (hb hby d78m3_15) rfl rfl) ?_
    obtain ⟨T39, X39, e39, st39⟩ := getF X37 hx hZ hown (host := "") (Or.inl (hw _ (List.mem_of_getElem? (i := 14) rfl))) Via.refl e37 (V0.fld 0 rfl 1 rfl rfl) (g := (mkF m 16 #[.val (.ref ao), .val (.int t)] [(.ref ao), (.int hg), (.ref au)])) rfl rfl (hb hby d78m3_16)
    refine OGets.step st39 ?_
    refine OGets.step (fun _ => XS.aloadN X39.here hx rfl (hb hby d78m3_19) rfl rfl) ?_
    obtain ⟨T40, X40, e40, st40⟩ := getF X39 hx hZ hown (host := "") (Or.inl (hw _ (List.mem_of_getElem? (i := 27) rfl))) Via.refl e39 (V0.fld 0 rfl 5 rfl rfl) (g := (mkF m 20 #[.val (.ref ao), .val (.int t)] [(.ref ao), (.ref au), (.int hg), (.ref au)])) rfl rfl (hb hby d78m3_20)
    refine OGets.step st40 ?_
    refine OGets.step (fun _ => XS.iconst X40.here hx rfl (hb hby d78m3_23)) ?_
    refine OGets.step (fun _ => XS.isub X40.here hx rfl (hb hby d78m3_24) rfl) ?_
    obtain ⟨cl41, Ar41, S41⟩ := V0.arr 1 rfl
    refine OGets.step (fun _ => X40.iaload hx (j := (hg - (1 : Int32))) (v := (.int (gi UU (hg - (1 : Int32))))) (by rw [e40]; exact Ar41.1) (State.isArrayOf_alike hZ.alike Ar41.2.1) Ar41.2.2 (own_sin (n := 5) S41 (by simp only [List.length_map, si_len, sj_len, List.length_replicate, hlU]) (hh1 hc12_38)) (own_sgetI (n := 5) S41 (by simp only [List.length_map, si_len, sj_len, List.length_replicate, hlU]) (hh1 hc12_38)) (g := (mkF m 25 #[.val (.ref ao), .val (.int t)] [(.int (hg - (1 : Int32))), (.ref au), (.int hg), (.ref au)])) rfl rfl (hb hby d78m3_25) _) ?_
    refine OGets.step (fun _ => XS.goto X40.here hx rfl (pc0 := 26) (pc' := 30) rfl (hb hby d78m3_26) (by decide) (by decide)) ?_
    refine OGets.step (fun _ => XS.iloadN X40.here hx rfl (hb hby d78m3_30) rfl) ?_
    by_cases hc31_42 : t = (0 : Int32)
    · refine OGets.step (fun _ => XS.ifYes X40.here hx rfl (pc0 := 31) (pc' := 38) rfl (hb hby d78m3_31) rfl ((if0 _ _).trans (teq hc31_42).1) (by decide) (by decide)) ?_
      show OGets p e below _ (T40.setTop (mkF m 38 #[.val (.ref ao), .val (.int t)] [(.int (gi UU (hg - (1 : Int32)))), (.int hg), (.ref au)]))
      refine OGets.step (fun _ => XS.iconst X40.here hx rfl (hb hby d78m3_38)) ?_
      refine OGets.step (fun _ => XS.iadd X40.here hx rfl (hb hby d78m3_39) rfl) ?_
      obtain ⟨cl43, Ar43, S43⟩ := V0.arr 1 rfl
      obtain ⟨T43, h43, X43, e43, W43, st43⟩ := stI X40 hx hZ e40 Ar43 (j := hg) (own_sin (n := 5) S43 (by simp only [List.length_map, si_len, sj_len, List.length_replicate, hlU]) hh0) (g := (mkF m 40 #[.val (.ref ao), .val (.int t)] [(.int ((gi UU (hg - (1 : Int32))) + (0 : Int32))), (.int hg), (.ref au)])) rfl rfl (hb hby d78m3_40)
      have V43 : OView Z n0 h43 (oC ao [(.int per), (.ref au), (.ref ac), .null, .null, (.int hg)] :: oA au (si UU hg ((gi UU (hg - (1 : Int32))) + (0 : Int32))) :: oA ac CC :: F) := V0.putI 1 rfl W43
      have N43 := Fr.snoc X43 N0 (V0.old 1 rfl)
      have Z43 : n0 ≤ h43.size := by rw [W43.size]; exact Z0
      refine OGets.step st43 ?_
      refine OGets.step (fun _ => XS.aloadN X43.here hx rfl (hb hby d78m3_41) rfl rfl) ?_
      obtain ⟨T44, X44, e44, st44⟩ := getF X43 hx hZ hown (host := "") (Or.inl (hw _ (List.mem_of_getElem? (i := 16) rfl))) Via.refl e43 (V43.fld 0 rfl 2 rfl rfl) (g := (mkF m 42 #[.val (.ref ao), .val (.int t)] [(.ref ao)])) rfl rfl (hb hby d78m3_42)
      refine OGets.step st44 ?_
      refine OGets.step (fun _ => XS.aloadN X44.here hx rfl (hb hby d78m3_45) rfl rfl) ?_
      obtain ⟨T45, X45, e45, st45⟩ := getF X44 hx hZ hown (host := "") (Or.inl (hw _ (List.mem_of_getElem? (i := 27) rfl))) Via.refl e44 (V43.fld 0 rfl 5 rfl rfl) (g := (mkF m 46 #[.val (.ref ao), .val (.int t)] [(.ref ao), (.ref ac)])) rfl rfl (hb hby d78m3_46)
      refine OGets.step st45 ?_
      refine OGets.step (fun _ => XS.iconst X45.here hx rfl (hb hby d78m3_49)) ?_
      obtain ⟨cl46, Ar46, S46⟩ := V43.arr 2 rfl
      obtain ⟨T46, h46, X46, e46, W46, st46⟩ := stI X45 hx hZ e45 Ar46 (j := hg) (own_sin (n := 5) S46 (by simp only [List.length_map, si_len, sj_len, List.length_replicate, hlC]) hh0) (g := (mkF m 50 #[.val (.ref ao), .val (.int t)] [(.int 0), (.int hg), (.ref ac)])) rfl rfl (hb hby d78m3_50)
      have V46 : OView Z n0 h46 (oC ao [(.int per), (.ref au), (.ref ac), .null, .null, (.int hg)] :: oA au (si UU hg ((gi UU (hg - (1 : Int32))) + (0 : Int32))) :: oA ac (si CC hg (0 : Int32)) :: F) := V43.putI 2 rfl W46
      have N46 := Fr.snoc X46 N43 (V43.old 2 rfl)
      have Z46 : n0 ≤ h46.size := by rw [W46.size]; exact Z43
      refine OGets.step st46 ?_
      refine OGets.step (fun _ => XS.aloadN X46.here hx rfl (hb hby d78m3_51) rfl rfl) ?_
      obtain ⟨T47, X47, e47, st47⟩ := getF X46 hx hZ hown (host := "") (Or.inl (hw _ (List.mem_of_getElem? (i := 18) rfl))) Via.refl e46 (V46.fld 0 rfl 3 rfl rfl) (g := (mkF m 52 #[.val (.ref ao), .val (.int t)] [(.ref ao)])) rfl rfl (hb hby d78m3_52)
      refine OGets.step st47 ?_
      refine OGets.step (fun _ => XS.ifnullYes X47.here hx rfl (pc0 := 55) (pc' := 123) rfl (hb hby d78m3_55) rfl (by decide) (by decide)) ?_
      refine OGets.step (fun _ => XS.aloadN X47.here hx rfl (hb hby d78m3_123) rfl rfl) ?_
      refine OGets.step (fun _ => XS.dup X47.here hx rfl (hb hby d78m3_124) rfl rfl) ?_
      obtain ⟨T48, X48, e48, st48⟩ := getF X47 hx hZ hown (host := "") (Or.inl (hw _ (List.mem_of_getElem? (i := 27) rfl))) Via.refl e47 (V46.fld 0 rfl 5 rfl rfl) (g := (mkF m 125 #[.val (.ref ao), .val (.int t)] [(.ref ao), (.ref ao)])) rfl rfl (hb hby d78m3_125)
      refine OGets.step st48 ?_
      refine OGets.step (fun _ => XS.iconst X48.here hx rfl (hb hby d78m3_128)) ?_
      refine OGets.step (fun _ => XS.iadd X48.here hx rfl (hb hby d78m3_129) rfl) ?_
      obtain ⟨T49, h49, X49, e49, W49, st49⟩ := putF X48 hx hZ hown (host := "") (Or.inl (hw _ (List.mem_of_getElem? (i := 27) rfl))) Via.refl e48 (V46.fld 0 rfl 5 rfl rfl) (V46.exa 0 rfl) (Or.inl (hw _ (List.mem_of_getElem? (i := 28) rfl))) (hw _ (List.mem_of_getElem? (i := 3) rfl)) (ty := .int) (by decide) rfl rfl (g := (mkF m 130 #[.val (.ref ao), .val (.int t)] [(.int (hg + (1 : Int32))), (.ref ao)])) rfl rfl (hb hby d78m3_130)
      have V49 : OView Z n0 h49 (oC ao [(.int per), (.ref au), (.ref ac), .null, .null, (.int (hg + (1 : Int32)))] :: oA au (si UU hg ((gi UU (hg - (1 : Int32))) + (0 : Int32))) :: oA ac (si CC hg (0 : Int32)) :: F) := V46.putF 0 rfl 5 rfl W49
      have N49 := Fr.snoc X49 N46 (V46.old 0 rfl)
      have Z49 : n0 ≤ h49.size := by rw [W49.size]; exact Z46
      refine OGets.step st49 ?_
      refine OGets.retV X49 hx hlk Bd.returns (hb hby d78m3_133) (Nat.le_of_ble_eq_true rfl) (Nat.le_of_ble_eq_true rfl) ?_
      have t1 : puU UU hg t = (si UU hg ((gi UU (hg - (1 : Int32))) + (0 : Int32))) := by unfold puU puX; rw [if_pos hc12_38, if_pos hc31_42]; first | done | rfl
      rw [e49]
      refine ⟨rfl, N49, ?_⟩
      rw [t1]
      exact V49
    · refine OGets.step (fun _ => XS.ifNo X40.here hx rfl (hb hby d78m3_31) rfl ((if0 _ _).trans (feq hc31_42).1)) ?_
      show OGets p e below _ (T40.setTop (mkF m 34 #[.val (.ref ao), .val (.int t)] [(.int (gi UU (hg - (1 : Int32)))), (.int hg), (.ref au)]))
      refine OGets.step (fun _ => XS.iconst X40.here hx rfl (hb hby d78m3_34)) ?_
      refine OGets.step (fun _ => XS.goto X40.here hx rfl (pc0 := 35) (pc' := 39) rfl (hb hby d78m3_35) (by decide) (by decide)) ?_
      refine OGets.step (fun _ => XS.iadd X40.here hx rfl (hb hby d78m3_39) rfl) ?_
      obtain ⟨cl50, Ar50, S50⟩ := V0.arr 1 rfl
      obtain ⟨T50, h50, X50, e50, W50, st50⟩ := stI X40 hx hZ e40 Ar50 (j := hg) (own_sin (n := 5) S50 (by simp only [List.length_map, si_len, sj_len, List.length_replicate, hlU]) hh0) (g := (mkF m 40 #[.val (.ref ao), .val (.int t)] [(.int ((gi UU (hg - (1 : Int32))) + (1 : Int32))), (.int hg), (.ref au)])) rfl rfl (hb hby d78m3_40)
      have V50 : OView Z n0 h50 (oC ao [(.int per), (.ref au), (.ref ac), .null, .null, (.int hg)] :: oA au (si UU hg ((gi UU (hg - (1 : Int32))) + (1 : Int32))) :: oA ac CC :: F) := V0.putI 1 rfl W50
      have N50 := Fr.snoc X50 N0 (V0.old 1 rfl)
      have Z50 : n0 ≤ h50.size := by rw [W50.size]; exact Z0
      refine OGets.step st50 ?_
      refine OGets.step (fun _ => XS.aloadN X50.here hx rfl (hb hby d78m3_41) rfl rfl) ?_
      obtain ⟨T51, X51, e51, st51⟩ := getF X50 hx hZ hown (host := "") (Or.inl (hw _ (List.mem_of_getElem? (i := 16) rfl))) Via.refl e50 (V50.fld 0 rfl 2 rfl rfl) (g := (mkF m 42 #[.val (.ref ao), .val (.int t)] [(.ref ao)])) rfl rfl (hb hby d78m3_42)
      refine OGets.step st51 ?_
      refine OGets.step (fun _ => XS.aloadN X51.here hx rfl (hb hby d78m3_45) rfl rfl) ?_
      obtain ⟨T52, X52, e52, st52⟩ := getF X51 hx hZ hown (host := "") (Or.inl (hw _ (List.mem_of_getElem? (i := 27) rfl))) Via.refl e51 (V50.fld 0 rfl 5 rfl rfl) (g := (mkF m 46 #[.val (.ref ao), .val (.int t)] [(.ref ao), (.ref ac)])) rfl rfl (hb hby d78m3_46)
      refine OGets.step st52 ?_
      refine OGets.step (fun _ => XS.iconst X52.here hx rfl (hb hby d78m3_49)) ?_
      obtain ⟨cl53, Ar53, S53⟩ := V50.arr 2 rfl
      obtain ⟨T53, h53, X53, e53, W53, st53⟩ := stI X52 hx hZ e52 Ar53 (j := hg) (own_sin (n := 5) S53 (by simp only [List.length_map, si_len, sj_len, List.length_replicate, hlC]) hh0) (g := (mkF m 50 #[.val (.ref ao), .val (.int t)] [(.int 0), (.int hg), (.ref ac)])) rfl rfl (hb hby d78m3_50)
      have V53 : OView Z n0 h53 (oC ao [(.int per), (.ref au), (.ref ac), .null, .null, (.int hg)] :: oA au (si UU hg ((gi UU (hg - (1 : Int32))) + (1 : Int32))) :: oA ac (si CC hg (0 : Int32)) :: F) := V50.putI 2 rfl W53
      have N53 := Fr.snoc X53 N50 (V50.old 2 rfl)
      have Z53 : n0 ≤ h53.size := by rw [W53.size]; exact Z50
      refine OGets.step st53 ?_
      refine OGets.step (fun _ => XS.aloadN X53.here hx rfl (hb hby d78m3_51) rfl rfl) ?_
      obtain ⟨T54, X54, e54, st54⟩ := getF X53 hx hZ hown (host := "") (Or.inl (hw _ (List.mem_of_getElem? (i := 18) rfl))) Via.refl e53 (V53.fld 0 rfl 3 rfl rfl) (g := (mkF m 52 #[.val (.ref ao), .val (.int t)] [(.ref ao)])) rfl rfl (hb hby d78m3_52)
      refine OGets.step st54 ?_
      refine OGets.step (fun _ => XS.ifnullYes X54.here hx rfl (pc0 := 55) (pc' := 123) rfl (hb hby d78m3_55) rfl (by decide) (by decide)) ?_
      refine OGets.step (fun _ => XS.aloadN X54.here hx rfl (hb hby d78m3_123) rfl rfl) ?_
      refine OGets.step (fun _ => XS.dup X54.here hx rfl (hb hby d78m3_124) rfl rfl) ?_
      obtain ⟨T55, X55, e55, st55⟩ := getF X54 hx hZ hown (host := "") (Or.inl (hw _ (List.mem_of_getElem? (i := 27) rfl))) Via.refl e54 (V53.fld 0 rfl 5 rfl rfl) (g := (mkF m 125 #[.val (.ref ao), .val (.int t)] [(.ref ao), (.ref ao)])) rfl rfl (hb hby d78m3_125)
      refine OGets.step st55 ?_
      refine OGets.step (fun _ => XS.iconst X55.here hx rfl (hb hby d78m3_128)) ?_
      refine OGets.step (fun _ => XS.iadd X55.here hx rfl (hb hby d78m3_129) rfl) ?_
      obtain ⟨T56, h56, X56, e56, W56, st56⟩ := putF X55 hx hZ hown (host := "") (Or.inl (hw _ (List.mem_of_getElem? (i := 27) rfl))) Via.refl e55 (V53.fld 0 rfl 5 rfl rfl) (V53.exa 0 rfl) (Or.inl (hw _ (List.mem_of_getElem? (i := 28) rfl))) (hw _ (List.mem_of_getElem? (i := 3) rfl)) (ty := .int) (by decide) rfl rfl (g := (mkF m 130 #[.val (.ref ao), .val (.int t)] [(.int (hg + (1 : Int32))), (.ref ao)])) rfl rfl (hb hby d78m3_130)
      have V56 : OView Z n0 h56 (oC ao [(.int per), (.ref au), (.ref ac), .null, .null, (.int (hg + (1 : Int32)))] :: oA au (si UU hg ((gi UU (hg - (1 : Int32))) + (1 : Int32))) :: oA ac (si CC hg (0 : Int32)) :: F) := V53.putF 0 rfl 5 rfl W56
      have N56 := Fr.snoc X56 N53 (V53.old 0 rfl)
      have Z56 : n0 ≤ h56.size := by rw [W56.size]; exact Z53
      refine OGets.step st56 ?_
      refine OGets.retV X56 hx hlk Bd.returns (hb hby d78m3_133) (Nat.le_of_ble_eq_true rfl) (Nat.le_of_ble_eq_true rfl) ?_
      have t1 : puU UU hg t = (si UU hg ((gi UU (hg - (1 : Int32))) + (1 : Int32))) := by unfold puU puX; rw [if_pos hc12_38, if_neg hc31_42]; first | done | rfl
      rw [e56]
      refine ⟨rfl, N56, ?_⟩
      rw [t1]
      exact V56
  · refine OGets.step (fun _ => XS.ifYes X37.here hx rfl (pc0 := 12) (pc' := 29) rfl (hb hby d78m3_12) rfl ((if0 _ _).trans (flt hc12_38).2.2.2) (by decide) (by decide)) ?_
    show OGets p e below _ (T37.setTop (mkF m 29 #[.val (.ref ao), .val (.int t)] [(.int hg), (.ref au)]))
    refine OGets.step (fun _ => XS.iconst X37.here hx rfl (hb hby d78m3_29)) ?_
    refine OGets.step (fun _ => XS.iloadN X37.here hx rfl (hb hby d78m3_30) rfl) ?_
    by_cases hc31_57 : t = (0 : Int32)
    · refine OGets.step (fun _ => XS.ifYes X37.here hx rfl (pc0 := 31) (pc' := 38) rfl (hb hby d78m3_31) rfl ((if0 _ _).trans (teq hc31_57).1) (by decide) (by decide)) ?_
      show OGets p e below _ (T37.setTop (mkF m 38 #[.val (.ref ao), .val (.int t)] [(.int 0), (.int hg), (.ref au)]))
      refine OGets.step (fun _ => XS.iconst X37.here hx rfl (hb hby d78m3_38)) ?_
      refine OGets.step (fun _ => XS.iadd X37.here hx rfl (hb hby d78m3_39) rfl) ?_
      show OGets p e below _ (T37.setTop (mkF m 40 #[.val (.ref ao), .val (.int t)] [(.int 0), (.int hg), (.ref au)]))
      obtain ⟨cl58, Ar58, S58⟩ := V0.arr 1 rfl
      obtain ⟨T58, h58, X58, e58, W58, st58⟩ := stI X37 hx hZ e37 Ar58 (j := hg) (own_sin (n := 5) S58 (by simp only [List.length_map, si_len, sj_len, List.length_replicate, hlU]) hh0) (g := (mkF m 40 #[.val (.ref ao), .val (.int t)] [(.int 0), (.int hg), (.ref au)])) rfl rfl (hb hby d78m3_40)
      have V58 : OView Z n0 h58 (oC ao [(.int per), (.ref au), (.ref ac), .null, .null, (.int hg)] :: oA au (si UU hg (0 : Int32)) :: oA ac CC :: F) := V0.putI 1 rfl W58
      have N58 := Fr.snoc X58 N0 (V0.old 1 rfl)
      have Z58 : n0 ≤ h58.size := by rw [W58.size]; exact Z0
      refine OGets.step st58 ?_
      refine OGets.step (fun _ => XS.aloadN X58.here hx rfl (hb hby d78m3_41) rfl rfl) ?_
      obtain ⟨T59, X59, e59, st59⟩ := getF X58 hx hZ hown (host := "") (Or.inl (hw _ (List.mem_of_getElem? (i := 16) rfl))) Via.refl e58 (V58.fld 0 rfl 2 rfl rfl) (g := (mkF m 42 #[.val (.ref ao), .val (.int t)] [(.ref ao)])) rfl rfl (hb hby d78m3_42)
      refine OGets.step st59 ?_
      refine OGets.step (fun _ => XS.aloadN X59.here hx rfl (hb hby d78m3_45) rfl rfl) ?_
      obtain ⟨T60, X60, e60, st60⟩ := getF X59 hx hZ hown (host := "") (Or.inl (hw _ (List.mem_of_getElem? (i := 27) rfl))) Via.refl e59 (V58.fld 0 rfl 5 rfl rfl) (g := (mkF m 46 #[.val (.ref ao), .val (.int t)] [(.ref ao), (.ref ac)])) rfl rfl (hb hby d78m3_46)
      refine OGets.step st60 ?_
      refine OGets.step (fun _ => XS.iconst X60.here hx rfl (hb hby d78m3_49)) ?_
      obtain ⟨cl61, Ar61, S61⟩ := V58.arr 2 rfl
      obtain ⟨T61, h61, X61, e61, W61, st61⟩ := stI X60 hx hZ e60 Ar61 (j := hg) (own_sin (n := 5) S61 (by simp only [List.length_map, si_len, sj_len, List.length_replicate, hlC]) hh0) (g := (mkF m 50 #[.val (.ref ao), .val (.int t)] [(.int 0), (.int hg), (.ref ac)])) rfl rfl (hb hby d78m3_50)
      have V61 : OView Z n0 h61 (oC ao [(.int per), (.ref au), (.ref ac), .null, .null, (.int hg)] :: oA au (si UU hg (0 : Int32)) :: oA ac (si CC hg (0 : Int32)) :: F) := V58.putI 2 rfl W61
      have N61 := Fr.snoc X61 N58 (V58.old 2 rfl)
      have Z61 : n0 ≤ h61.size := by rw [W61.size]; exact Z58
      refine OGets.step st61 ?_
      refine OGets.step (fun _ => XS.aloadN X61.here hx rfl (hb hby d78m3_51) rfl rfl) ?_
      obtain ⟨T62, X62, e62, st62⟩ := getF X61 hx hZ hown (host := "") (Or.inl (hw _ (List.mem_of_getElem? (i := 18) rfl))) Via.refl e61 (V61.fld 0 rfl 3 rfl rfl) (g := (mkF m 52 #[.val (.ref ao), .val (.int t)] [(.ref ao)])) rfl rfl (hb hby d78m3_52)
      refine OGets.step st62 ?_
      refine OGets.step (fun _ => XS.ifnullYes X62.here hx rfl (pc0 := 55) (pc' := 123) rfl (hb hby d78m3_55) rfl (by decide) (by decide)) ?_
      refine OGets.step (fun _ => XS.aloadN X62.here hx rfl (hb hby d78m3_123) rfl rfl) ?_
      refine OGets.step (fun _ => XS.dup X62.here hx rfl (hb hby d78m3_124) rfl rfl) ?_
      obtain ⟨T63, X63, e63, st63⟩ := getF X62 hx hZ hown (host := "") (Or.inl (hw _ (List.mem_of_getElem? (i := 27) rfl))) Via.refl e62 (V61.fld 0 rfl 5 rfl rfl) (g := (mkF m 125 #[.val (.ref ao), .val (.int t)] [(.ref ao), (.ref ao)])) rfl rfl (hb hby d78m3_125)
      refine OGets.step st63 ?_
      refine OGets.step (fun _ => XS.iconst X63.here hx rfl (hb hby d78m3_128)) ?_
      refine OGets.step (fun _ => XS.iadd X63.here hx rfl (hb hby d78m3_129) rfl) ?_
      obtain ⟨T64, h64, X64, e64, W64, st64⟩ := putF X63 hx hZ hown (host := "") (Or.inl (hw _ (List.mem_of_getElem? (i := 27) rfl))) Via.refl e63 (V61.fld 0 rfl 5 rfl rfl) (V61.exa 0 rfl) (Or.inl (hw _ (List.mem_of_getElem? (i := 28) rfl))) (hw _ (List.mem_of_getElem? (i := 3) rfl)) (ty := .int) (by decide) rfl rfl (g := (mkF m 130 #[.val (.ref ao), .val (.int t)] [(.int (hg + (1 : Int32))), (.ref ao)])) rfl rfl (hb hby d78m3_130)
      have V64 : OView Z n0 h64 (oC ao [(.int per), (.ref au), (.ref ac), .null, .null, (.int (hg + (1 : Int32)))] :: oA au (si UU hg (0 : Int32)) :: oA ac (si CC hg (0 : Int32)) :: F) := V61.putF 0 rfl 5 rfl W64
      have N64 := Fr.snoc X64 N61 (V61.old 0 rfl)
      have Z64 : n0 ≤ h64.size := by rw [W64.size]; exact Z61
      refine OGets.step st64 ?_
      refine OGets.retV X64 hx hlk Bd.returns (hb hby d78m3_133) (Nat.le_of_ble_eq_true rfl) (Nat.le_of_ble_eq_true rfl) ?_
      have t1 : puU UU hg t = (si UU hg (0 : Int32)) := by unfold puU puX; rw [if_neg hc12_38, if_pos hc31_57]; first | done | rfl
      rw [e64]
      refine ⟨rfl, N64, ?_⟩
      rw [t1]
      exact V64
    · refine OGets.step (fun _ => XS.ifNo X37.here hx rfl (hb hby d78m3_31) rfl ((if0 _ _).trans (feq hc31_57).1)) ?_
      show OGets p e below _ (T37.setTop (mkF m 34 #[.val (.ref ao), .val (.int t)] [(.int 0), (.int hg), (.ref au)]))
      refine OGets.step (fun _ => XS.iconst X37.here hx rfl (hb hby d78m3_34)) ?_
      refine OGets.step (fun _ => XS.goto X37.here hx rfl (pc0 := 35) (pc' := 39) rfl (hb hby d78m3_35) (by decide) (by decide)) ?_
      refine OGets.step (fun _ => XS.iadd X37.here hx rfl (hb hby d78m3_39) rfl) ?_
      show OGets p e below _ (T37.setTop (mkF m 40 #[.val (.ref ao), .val (.int t)] [(.int 1), (.int hg), (.ref au)]))
      obtain ⟨cl65, Ar65, S65⟩ := V0.arr 1 rfl
      obtain ⟨T65, h65, X65, e65, W65, st65⟩ := stI X37 hx hZ e37 Ar65 (j := hg) (own_sin (n := 5) S65 (by simp only [List.length_map, si_len, sj_len, List.length_replicate, hlU]) hh0) (g := (mkF m 40 #[.val (.ref ao), .val (.int t)] [(.int 1), (.int hg), (.ref au)])) rfl rfl (hb hby d78m3_40)
      have V65 : OView Z n0 h65 (oC ao [(.int per), (.ref au), (.ref ac), .null, .null, (.int hg)] :: oA au (si UU hg (1 : Int32)) :: oA ac CC :: F) := V0.putI 1 rfl W65
      have N65 := Fr.snoc X65 N0 (V0.old 1 rfl)
      have Z65 : n0 ≤ h65.size := by rw [W65.size]; exact Z0
      refine OGets.step st65 ?_
      refine OGets.step (fun _ => XS.aloadN X65.here hx rfl (hb hby d78m3_41) rfl rfl) ?_
      obtain ⟨T66, X66, e66, st66⟩ := getF X65 hx hZ hown (host := "") (Or.inl (hw _ (List.mem_of_getElem? (i := 16) rfl))) Via.refl e65 (V65.fld 0 rfl 2 rfl rfl) (g := (mkF m 42 #[.val (.ref ao), .val (.int t)] [(.ref ao)])) rfl rfl (hb hby d78m3_42)
      refine OGets.step st66 ?_
      refine OGets.step (fun _ => XS.aloadN X66.here hx rfl (hb hby d78m3_45) rfl rfl) ?_
      obtain ⟨T67, X67, e67, st67⟩ := getF X66 hx hZ hown (host := "") (Or.inl (hw _ (List.mem_of_getElem? (i := 27) rfl))) Via.refl e66 (V65.fld 0 rfl 5 rfl rfl) (g := (mkF m 46 #[.val (.ref ao), .val (.int t)] [(.ref ao), (.ref ac)])) rfl rfl (hb hby d78m3_46)
      refine OGets.step st67 ?_
      refine OGets.step (fun _ => XS.iconst X67.here hx rfl (hb hby d78m3_49)) ?_
      obtain ⟨cl68, Ar68, S68⟩ := V65.arr 2 rfl
      obtain ⟨T68, h68, X68, e68, W68, st68⟩ := stI X67 hx hZ e67 Ar68 (j := hg) (own_sin (n := 5) S68 (by simp only [List.length_map, si_len, sj_len, List.length_replicate, hlC]) hh0) (g := (mkF m 50 #[.val (.ref ao), .val (.int t)] [(.int 0), (.int hg), (.ref ac)])) rfl rfl (hb hby d78m3_50)
      have V68 : OView Z n0 h68 (oC ao [(.int per), (.ref au), (.ref ac), .null, .null, (.int hg)] :: oA au (si UU hg (1 : Int32)) :: oA ac (si CC hg (0 : Int32)) :: F) := V65.putI 2 rfl W68
      have N68 := Fr.snoc X68 N65 (V65.old 2 rfl)
      have Z68 : n0 ≤ h68.size := by rw [W68.size]; exact Z65
      refine OGets.step st68 ?_
      refine OGets.step (fun _ => XS.aloadN X68.here hx rfl (hb hby d78m3_51) rfl rfl) ?_
      obtain ⟨T69, X69, e69, st69⟩ := getF X68 hx hZ hown (host := "") (Or.inl (hw _ (List.mem_of_getElem? (i := 18) rfl))) Via.refl e68 (V68.fld 0 rfl 3 rfl rfl) (g := (mkF m 52 #[.val (.ref ao), .val (.int t)] [(.ref ao)])) rfl rfl (hb hby d78m3_52)
      refine OGets.step st69 ?_
      refine OGets.step (fun _ => XS.ifnullYes X69.here hx rfl (pc0 := 55) (pc' := 123) rfl (hb hby d78m3_55) rfl (by decide) (by decide)) ?_
      refine OGets.step (fun _ => XS.aloadN X69.here hx rfl (hb hby d78m3_123) rfl rfl) ?_
      refine OGets.step (fun _ => XS.dup X69.here hx rfl (hb hby d78m3_124) rfl rfl) ?_
      obtain ⟨T70, X70, e70, st70⟩ := getF X69 hx hZ hown (host := "") (Or.inl (hw _ (List.mem_of_getElem? (i := 27) rfl))) Via.refl e69 (V68.fld 0 rfl 5 rfl rfl) (g := (mkF m 125 #[.val (.ref ao), .val (.int t)] [(.ref ao), (.ref ao)])) rfl rfl (hb hby d78m3_125)
      refine OGets.step st70 ?_
      refine OGets.step (fun _ => XS.iconst X70.here hx rfl (hb hby d78m3_128)) ?_
      refine OGets.step (fun _ => XS.iadd X70.here hx rfl (hb hby d78m3_129) rfl) ?_
      obtain ⟨T71, h71, X71, e71, W71, st71⟩ := putF X70 hx hZ hown (host := "") (Or.inl (hw _ (List.mem_of_getElem? (i := 27) rfl))) Via.refl e70 (V68.fld 0 rfl 5 rfl rfl) (V68.exa 0 rfl) (Or.inl (hw _ (List.mem_of_getElem? (i := 28) rfl))) (hw _ (List.mem_of_getElem? (i := 3) rfl)) (ty := .int) (by decide) rfl rfl (g := (mkF m 130 #[.val (.ref ao), .val (.int t)] [(.int (hg + (1 : Int32))), (.ref ao)])) rfl rfl (hb hby d78m3_130)
      have V71 : OView Z n0 h71 (oC ao [(.int per), (.ref au), (.ref ac), .null, .null, (.int (hg + (1 : Int32)))] :: oA au (si UU hg (1 : Int32)) :: oA ac (si CC hg (0 : Int32)) :: F) := V68.putF 0 rfl 5 rfl W71
      have N71 := Fr.snoc X71 N68 (V68.old 0 rfl)
      have Z71 : n0 ≤ h71.size := by rw [W71.size]; exact Z68
      refine OGets.step st71 ?_
      refine OGets.retV X71 hx hlk Bd.returns (hb hby d78m3_133) (Nat.le_of_ble_eq_true rfl) (Nat.le_of_ble_eq_true rfl) ?_
      have t1 : puU UU hg t = (si UU hg (1 : Int32)) := by unfold puU puX; rw [if_neg hc12_38, if_neg hc31_57]; first | done | rfl
      rw [e71]
      refine ⟨rfl, N71, ?_⟩
      rw [t1]
      exact V71
theorem d78m3_58 : decode prog_78_method_3_code 58 = .ok (.aload_n 0, 1) := by decide +kernel
theorem d78m3_59 : decode prog_78_method_3_code 59 = .ok (.getfield 20, 3) := by decide +kernel
theorem d78m3_62 : decode prog_78_method_3_code 62 = .ok (.aload_n 0, 1) := by decide +kernel
theorem d78m3_63 : decode prog_78_method_3_code 63 = .ok (.getfield 27, 3) := by decide +kernel
theorem d78m3_66 : decode prog_78_method_3_code 66 = .ok (.iconst 0, 1) := by decide +kernel
theorem d78m3_67 : decode prog_78_method_3_code 67 = .ok (.iastore, 1) := by decide +kernel
theorem d78m3_68 : decode prog_78_method_3_code 68 = .ok (.aload_n 0, 1) := by decide +kernel
theorem d78m3_69 : decode prog_78_method_3_code 69 = .ok (.getfield 23, 3) := by decide +kernel
theorem d78m3_72 : decode prog_78_method_3_code 72 = .ok (.aload_n 0, 1) := by decide +kernel
theorem d78m3_73 : decode prog_78_method_3_code 73 = .ok (.getfield 27, 3) := by decide +kernel
theorem d78m3_76 : decode prog_78_method_3_code 76 = .ok (.iconst 1, 1) := by decide +kernel
theorem d78m3_77 : decode prog_78_method_3_code 77 = .ok (.iadd, 1) := by decide +kernel
theorem d78m3_78 : decode prog_78_method_3_code 78 = .ok (.aload_n 0, 1) := by decide +kernel
theorem d78m3_79 : decode prog_78_method_3_code 79 = .ok (.getfield 13, 3) := by decide +kernel
theorem d78m3_82 : decode prog_78_method_3_code 82 = .ok (.aload_n 0, 1) := by decide +kernel
theorem d78m3_83 : decode prog_78_method_3_code 83 = .ok (.getfield 27, 3) := by decide +kernel
theorem d78m3_86 : decode prog_78_method_3_code 86 = .ok (.iaload, 1) := by decide +kernel
theorem d78m3_87 : decode prog_78_method_3_code 87 = .ok (.i2l, 1) := by decide +kernel
theorem d78m3_88 : decode prog_78_method_3_code 88 = .ok (.aload_n 0, 1) := by decide +kernel
theorem d78m3_89 : decode prog_78_method_3_code 89 = .ok (.getfield 27, 3) := by decide +kernel
theorem d78m3_92 : decode prog_78_method_3_code 92 = .ok (.iconst 1, 1) := by decide +kernel
theorem d78m3_93 : decode prog_78_method_3_code 93 = .ok (.iadd, 1) := by decide +kernel
theorem d78m3_94 : decode prog_78_method_3_code 94 = .ok (.aload_n 0, 1) := by decide +kernel
theorem d78m3_95 : decode prog_78_method_3_code 95 = .ok (.getfield 7, 3) := by decide +kernel
theorem d78m3_98 : decode prog_78_method_3_code 98 = .ok (.if_icmp .lt 22, 3) := by decide +kernel
theorem d78m3_120 : decode prog_78_method_3_code 120 = .ok (.lconst 0, 1) := by decide +kernel
theorem d78m3_121 : decode prog_78_method_3_code 121 = .ok (.ladd, 1) := by decide +kernel
theorem d78m3_122 : decode prog_78_method_3_code 122 = .ok (.lastore, 1) := by decide +kernel
theorem d78m3_101 : decode prog_78_method_3_code 101 = .ok (.aload_n 0, 1) := by decide +kernel
theorem d78m3_102 : decode prog_78_method_3_code 102 = .ok (.getfield 23, 3) := by decide +kernel
theorem d78m3_105 : decode prog_78_method_3_code 105 = .ok (.aload_n 0, 1) := by decide +kernel
theorem d78m3_106 : decode prog_78_method_3_code 106 = .ok (.getfield 27, 3) := by decide +kernel
theorem d78m3_109 : decode prog_78_method_3_code 109 = .ok (.iconst 1, 1) := by decide +kernel
theorem d78m3_110 : decode prog_78_method_3_code 110 = .ok (.iadd, 1) := by decide +kernel
theorem d78m3_111 : decode prog_78_method_3_code 111 = .ok (.aload_n 0, 1) := by decide +kernel
theorem d78m3_112 : decode prog_78_method_3_code 112 = .ok (.getfield 7, 3) := by decide +kernel
theorem d78m3_115 : decode prog_78_method_3_code 115 = .ok (.isub, 1) := by decide +kernel
theorem d78m3_116 : decode prog_78_method_3_code 116 = .ok (.laload, 1) := by decide +kernel
theorem d78m3_117 : decode prog_78_method_3_code 117 = .ok (.goto 4, 3) := by decide +kernel
theorem ef_pushB (m : MethodId) (x0 : Addr) (x1 : Int32) : entryFrame m #[(.ref x0), (.int x1)] 2 = mkF m 0 #[.val (.ref x0), .val (.int x1)] [] := by first | (simp [entryFrame, mkF, argsToLocals, Value.category]; done) | rfl
def Q_pushB (Z : State) (ab : Addr) (ay : Addr) (ao : Addr) (au : Addr) (ac : Addr) (per : Int32) (hg : Int32) (t : Int32) (UU : List Int32) (CC : List Int32) (BB : List Int32) (YY : List Int64) (h0 : Heap) (n0 : Nat) (F : List (Addr × OObj)) (v : Option Value) (h : Heap) (L : List Loc) : Prop := v = none ∧ Fr n0 L ∧ OView Z n0 h (oC ao [(.int per), (.ref au), (.ref ac), (.ref ab), (.ref ay), (.int (hg + (1 : Int32)))] :: oA au (puU UU hg t) :: oA ac (si CC hg (0 : Int32)) :: oA ab (si BB hg (0 : Int32)) :: oJ ay (puY UU YY per hg t) :: F)
set_option maxRecDepth 65536 in
set_option maxHeartbeats 40000000 in
theorem rm_pushB (l : Launch) (Z : State) (a0 : Array Value) (hw : ∀ d ∈ tables_1, d.before a0 Z = true) (ws : List Jvm.Cond) (ab : Addr) (ay : Addr) (ao : Addr) (au : Addr) (ac : Addr) (per : Int32) (hg : Int32) (t : Int32) (UU : List Int32) (CC : List Int32) (BB : List Int32) (YY : List Int64) (h0 : Heap) (n0 : Nat) (F : List (Addr × OObj)) (Z0 : n0 ≤ h0.size) (hlU : UU.length = 5) (hlC : CC.length = 5) (hh0 : inb 5 hg) (hh1 : (0 : Int32) < hg → inb 5 (hg - (1 : Int32))) (hlB : BB.length = 5) (hlY : YY.length = 6) (hh2 : inb 6 (hg + (1 : Int32))) (hh3 : ¬ (hg + (1 : Int32)) < per → inb 6 ((hg + (1 : Int32)) - per)) (V0 : OView Z n0 h0 (oC ao [(.int per), (.ref au), (.ref ac), (.ref ab), (.ref ay), (.int hg)] :: oA au UU :: oA ac CC :: oA ab BB :: oJ ay YY :: F)) :
    MetFree l (⟨"com/example/pelt/pelt/StackCounts", "push", "(Z)V"⟩ : MethodName) (head1 (Jvm.Cond.code (⟨"com/example/pelt/pelt/StackCounts", "push", "(Z)V"⟩ : MethodName) prog_78_method_3_code 2 none :: ws) ({ frames := 0, cells := 0, slots := 0, locals := 0 } : Room)) (fun a_ U => a_ = #[(.ref ao), (.int t)] ∧ Z.Warmed39 U.vm ∧ U.heap = h0) (fun _ _ _ _ _ => True) (fun _ U o U' => ∃ v L, o = .returned v ∧ Q_pushB Z ab ay ao au ac per hg t UU CC BB YY h0 n0 F v U'.heap L ∧ FrameEnd U o U' L ({ frames := 0, cells := 0, slots := 0, locals := 0 } : Room).cells ({ frames := 0, cells := 0, slots := 0, locals := 0 } : Room).slots) := by
  refine MetFree.of_bodySF (plainFor_of_name pn_3) hisR ?_
  intro p e s m args below meth c s₁ Bd hml0 hP hK
  obtain ⟨rfl, hZ, hh⟩ := hP
  have hx := Bd.exec
  have hby := Bd.bytes
  have hlk : meth.locks = false := Bd.notSynchronized
  have hml : c.maxLocals = 2 := hml0
  have hown : s.vm.findClass "com/example/pelt/pelt/StackCounts" = some m.cls := findClass_of_methodNamed Bd.named
  have hnm := (name_of_methodNamed Bd.named Bd.method).1
  have X0 : Stand p l e ({ frames := 0, cells := 0, slots := 0, locals := 0 } : Room) s m #[(.ref ao), (.int t)] below meth c s₁ [] 0 0 := Stand.of_body Bd
  have e0 : s₁.heap = h0 := by rw [← hh, Bd.state]; rfl
  have N0 := Fr.nil n0
  show OGets p e below (OLeaves s (Q_pushB Z ab ay ao au ac per hg t UU CC BB YY h0 n0 F ) ({ frames := 0, cells := 0, slots := 0, locals := 0 } : Room).cells ({ frames := 0, cells := 0, slots := 0, locals := 0 } : Room).slots) _
  refine OGets.enter (ef_pushB m ao t) ?_
  show OGets p e below _ (s₁.setTop (mkF m 0 #[.val (.ref ao), .val (.int t)] []))
  refine OGets.step (fun _ => XS.aloadN X0.here hx rfl (hb hby d78m3_0) rfl rfl) ?_
  obtain ⟨T72, X72, e72, st72⟩ := getF X0 hx hZ hown (host := "") (Or.inl (hw _ (List.mem_of_getElem? (i := 14) rfl))) Via.refl e0 (V0.fld 0 rfl 1 rfl rfl) (g := (mkF m 1 #[.val (.ref ao), .val (.int t)] [(.ref ao)])) rfl rfl (hb hby d78m3_1)
  refine OGets.step st72 ?_
  refine OGets.step (fun _ => XS.aloadN X72.here hx rfl (hb hby d78m3_4) rfl rfl) ?_
  obtain ⟨T73, X73, e73, st73⟩ := getF X72 hx hZ hown (host := "") (Or.inl (hw _ (List.mem_of_getElem? (i := 27) rfl))) Via.refl e72 (V0.fld 0 rfl 5 rfl rfl) (g := (mkF m 5 #[.val (.ref ao), .val (.int t)] [(.ref ao), (.ref au)])) rfl rfl (hb hby d78m3_5)
  refine OGets.step st73 ?_
  refine OGets.step (fun _ => XS.aloadN X73.here hx rfl (hb hby d78m3_8) rfl rfl) ?_
  obtain ⟨T74, X74, e74, st74⟩ := getF X73 hx hZ hown (host := "") (Or.inl (hw _ (List.mem_of_getElem? (i := 27) rfl))) Via.refl e73 (V0.fld 0 rfl 5 rfl rfl) (g := (mkF m 9 #[.val (.ref ao), .val (.int t)] [(.ref ao), (.int hg), (.ref au)])) rfl rfl (hb hby d78m3_9)
  refine OGets.step st74 ?_
  by_cases hc12_75 : (0 : Int32) < hg
  · refine OGets.step (fun _ => XS.ifNo X74.here hx rfl (hb hby d78m3_12) rfl ((if0 _ _).trans (tlt hc12_75).2.2.2)) ?_
    show OGets p e below _ (T74.setTop (mkF m 15 #[.val (.ref ao), .val (.int t)] [(.int hg), (.ref au)]))
    refine OGets.step (fun _ => XS.aloadN X74.here hx rfl (hb hby d78m3_15) rfl rfl) ?_
    obtain ⟨T76, X76, e76, st76⟩ := getF X74 hx hZ hown (host := "") (Or.inl (hw _ (List.mem_of_getElem? (i := 14) rfl))) Via.refl e74 (V0.fld 0 rfl 1 rfl rfl) (g := (mkF m 16 #[.val (.ref ao), .val (.int t)] [(.ref ao), (.int hg), (.ref au)])) rfl rfl (hb hby d78m3_16)
    refine OGets.step st76 ?_
    refine OGets.step (fun _ => XS.aloadN X76.here hx rfl (hb hby d78m3_19) rfl rfl) ?_
    obtain ⟨T77, X77, e77, st77⟩ := getF X76 hx hZ hown (host := "") (Or.inl (hw _ (List.mem_of_getElem? (i := 27) rfl))) Via.refl e76 (V0.fld 0 rfl 5 rfl rfl) (g := (mkF m 20 #[.val (.ref ao), .val (.int t)] [(.ref ao), (.ref au), (.int hg), (.ref au)])) rfl rfl (hb hby d78m3_20)
    refine OGets.step st77 ?_
    refine OGets.step (fun _ => XS.iconst X77.here hx rfl (hb hby d78m3_23)) ?_
    refine OGets.step (fun _ => XS.isub X77.here hx rfl (hb hby d78m3_24) rfl) ?_
    obtain ⟨cl78, Ar78, S78⟩ := V0.arr 1 rfl
    refine OGets.step (fun _ => X77.iaload hx (j := (hg - (1 : Int32))) (v := (.int (gi UU (hg - (1 : Int32))))) (by rw [e77]; exact Ar78.1) (State.isArrayOf_alike hZ.alike Ar78.2.1) Ar78.2.2 (own_sin (n := 5) S78 (by simp only [List.length_map, si_len, sj_len, List.length_replicate, hlU]) (hh1 hc12_75)) (own_sgetI (n := 5) S78 (by simp only [List.length_map, si_len, sj_len, List.length_replicate, hlU]) (hh1 hc12_75)) (g := (mkF m 25 #[.val (.ref ao), .val (.int t)] [(.int (hg - (1 : Int32))), (.ref au), (.int hg), (.ref au)])) rfl rfl (hb hby d78m3_25) _) ?_
    refine OGets.step (fun _ => XS.goto X77.here hx rfl (pc0 := 26) (pc' := 30) rfl (hb hby d78m3_26) (by decide) (by decide)) ?_
    refine OGets.step (fun _ => XS.iloadN X77.here hx rfl (hb hby d78m3_30) rfl) ?_
    by_cases hc31_79 : t = (0 : Int32)
    · refine OGets.step (fun _ => XS.ifYes X77.here hx rfl (pc0 := 31) (pc' := 38) rfl (hb hby d78m3_31) rfl ((if0 _ _).trans (teq hc31_79).1) (by decide) (by decide)) ?_
      show OGets p e below _ (T77.setTop (mkF m 38 #[.val (.ref ao), .val (.int t)] [(.int (gi UU (hg - (1 : Int32)))), (.int hg), (.ref au)]))
      refine OGets.step (fun _ => XS.iconst X77.here hx rfl (hb hby d78m3_38)) ?_
      refine OGets.step (fun _ => XS.iadd X77.here hx rfl (hb hby d78m3_39) rfl) ?_
      obtain ⟨cl80, Ar80, S80⟩ := V0.arr 1 rfl
      obtain ⟨T80, h80, X80, e80, W80, st80⟩ := stI X77 hx hZ e77 Ar80 (j := hg) (own_sin (n := 5) S80 (by simp only [List.length_map, si_len, sj_len, List.length_replicate, hlU]) hh0) (g := (mkF m 40 #[.val (.ref ao), .val (.int t)] [(.int ((gi UU (hg - (1 : Int32))) + (0 : Int32))), (.int hg), (.ref au)])) rfl rfl (hb hby d78m3_40)
      have V80 : OView Z n0 h80 (oC ao [(.int per), (.ref au), (.ref ac), (.ref ab), (.ref ay), (.int hg)] :: oA au (si UU hg ((gi UU (hg - (1 : Int32))) + (0 : Int32))) :: oA ac CC :: oA ab BB :: oJ ay YY :: F) := V0.putI 1 rfl W80
      have N80 := Fr.snoc X80 N0 (V0.old 1 rfl)
      have Z80 : n0 ≤ h80.size := by rw [W80.size]; exact Z0
      refine OGets.step st80 ?_
      refine OGets.step (fun _ => XS.aloadN X80.here hx rfl (hb hby d78m3_41) rfl rfl) ?_
      obtain ⟨T81, X81, e81, st81⟩ := getF X80 hx hZ hown (host := "") (Or.inl (hw _ (List.mem_of_getElem? (i := 16) rfl))) Via.refl e80 (V80.fld 0 rfl 2 rfl rfl) (g := (mkF m 42 #[.val (.ref ao), .val (.int t)] [(.ref ao)])) rfl rfl (hb hby d78m3_42)
      refine OGets.step st81 ?_
      refine OGets.step (fun _ => XS.aloadN X81.here hx rfl (hb hby d78m3_45) rfl rfl) ?_
      obtain ⟨T82, X82, e82, st82⟩ := getF X81 hx hZ hown (host := "") (Or.inl (hw _ (List.mem_of_getElem? (i := 27) rfl))) Via.refl e81 (V80.fld 0 rfl 5 rfl rfl) (g := (mkF m 46 #[.val (.ref ao), .val (.int t)] [(.ref ao), (.ref ac)])) rfl rfl (hb hby d78m3_46)
      refine OGets.step st82 ?_
      refine OGets.step (fun _ => XS.iconst X82.here hx rfl (hb hby d78m3_49)) ?_
      obtain ⟨cl83, Ar83, S83⟩ := V80.arr 2 rfl
      obtain ⟨T83, h83, X83, e83, W83, st83⟩ := stI X82 hx hZ e82 Ar83 (j := hg) (own_sin (n := 5) S83 (by simp only [List.length_map, si_len, sj_len, List.length_replicate, hlC]) hh0) (g := (mkF m 50 #[.val (.ref ao), .val (.int t)] [(.int 0), (.int hg), (.ref ac)])) rfl rfl (hb hby d78m3_50)
      have V83 : OView Z n0 h83 (oC ao [(.int per), (.ref au), (.ref ac), (.ref ab), (.ref ay), (.int hg)] :: oA au (si UU hg ((gi UU (hg - (1 : Int32))) + (0 : Int32))) :: oA ac (si CC hg (0 : Int32)) :: oA ab BB :: oJ ay YY :: F) := V80.putI 2 rfl W83
      have N83 := Fr.snoc X83 N80 (V80.old 2 rfl)
      have Z83 : n0 ≤ h83.size := by rw [W83.size]; exact Z80
      refine OGets.step st83 ?_
      refine OGets.step (fun _ => XS.aloadN X83.here hx rfl (hb hby d78m3_51) rfl rfl) ?_
      obtain ⟨T84, X84, e84, st84⟩ := getF X83 hx hZ hown (host := "") (Or.inl (hw _ (List.mem_of_getElem? (i := 18) rfl))) Via.refl e83 (V83.fld 0 rfl 3 rfl rfl) (g := (mkF m 52 #[.val (.ref ao), .val (.int t)] [(.ref ao)])) rfl rfl (hb hby d78m3_52)
      refine OGets.step st84 ?_
      refine OGets.step (fun _ => XS.ifnullNo X84.here hx rfl (hb hby d78m3_55) rfl) ?_
      refine OGets.step (fun _ => XS.aloadN X84.here hx rfl (hb hby d78m3_58) rfl rfl) ?_
      obtain ⟨T85, X85, e85, st85⟩ := getF X84 hx hZ hown (host := "") (Or.inl (hw _ (List.mem_of_getElem? (i := 18) rfl))) Via.refl e84 (V83.fld 0 rfl 3 rfl rfl) (g := (mkF m 59 #[.val (.ref ao), .val (.int t)] [(.ref ao)])) rfl rfl (hb hby d78m3_59)
      refine OGets.step st85 ?_
      refine OGets.step (fun _ => XS.aloadN X85.here hx rfl (hb hby d78m3_62) rfl rfl) ?_
      obtain ⟨T86, X86, e86, st86⟩ := getF X85 hx hZ hown (host := "") (Or.inl (hw _ (List.mem_of_getElem? (i := 27) rfl))) Via.refl e85 (V83.fld 0 rfl 5 rfl rfl) (g := (mkF m 63 #[.val (.ref ao), .val (.int t)] [(.ref ao), (.ref ab)])) rfl rfl (hb hby d78m3_63)
      refine OGets.step st86 ?_
      refine OGets.step (fun _ => XS.iconst X86.here hx rfl (hb hby d78m3_66)) ?_
      obtain ⟨cl87, Ar87, S87⟩ := V83.arr 3 rfl
      obtain ⟨T87, h87, X87, e87, W87, st87⟩ := stI X86 hx hZ e86 Ar87 (j := hg) (own_sin (n := 5) S87 (by simp only [List.length_map, si_len, sj_len, List.length_replicate, hlB]) hh0) (g := (mkF m 67 #[.val (.ref ao), .val (.int t)] [(.int 0), (.int hg), (.ref ab)])) rfl rfl (hb hby d78m3_67)
      have V87 : OView Z n0 h87 (oC ao [(.int per), (.ref au), (.ref ac), (.ref ab), (.ref ay), (.int hg)] :: oA au (si UU hg ((gi UU (hg - (1 : Int32))) + (0 : Int32))) :: oA ac (si CC hg (0 : Int32)) :: oA ab (si BB hg (0 : Int32)) :: oJ ay YY :: F) := V83.putI 3 rfl W87
      have N87 := Fr.snoc X87 N83 (V83.old 3 rfl)
      have Z87 : n0 ≤ h87.size := by rw [W87.size]; exact Z83
      refine OGets.step st87 ?_
      refine OGets.step (fun _ => XS.aloadN X87.here hx rfl (hb hby d78m3_68) rfl rfl) ?_
      obtain ⟨T88, X88, e88, st88⟩ := getF X87 hx hZ hown (host := "") (Or.inl (hw _ (List.mem_of_getElem? (i := 20) rfl))) Via.refl e87 (V87.fld 0 rfl 4 rfl rfl) (g := (mkF m 69 #[.val (.ref ao), .val (.int t)] [(.ref ao)])) rfl rfl (hb hby d78m3_69)
      refine OGets.step st88 ?_
      refine OGets.step (fun _ => XS.aloadN X88.here hx rfl (hb hby d78m3_72) rfl rfl) ?_
      obtain ⟨T89, X89, e89, st89⟩ := getF X88 hx hZ hown (host := "") (Or.inl (hw _ (List.mem_of_getElem? (i := 27) rfl))) Via.refl e88 (V87.fld 0 rfl 5 rfl rfl) (g := (mkF m 73 #[.val (.ref ao), .val (.int t)] [(.ref ao), (.ref ay)])) rfl rfl (hb hby d78m3_73)
      refine OGets.step st89 ?_
      refine OGets.step (fun _ => XS.iconst X89.here hx rfl (hb hby d78m3_76)) ?_
      refine OGets.step (fun _ => XS.iadd X89.here hx rfl (hb hby d78m3_77) rfl) ?_
      refine OGets.step (fun _ => XS.aloadN X89.here hx rfl (hb hby d78m3_78) rfl rfl) ?_
      obtain ⟨T90, X90, e90, st90⟩ := getF X89 hx hZ hown (host := "") (Or.inl (hw _ (List.mem_of_getElem? (i := 14) rfl))) Via.refl e89 (V87.fld 0 rfl 1 rfl rfl) (g := (mkF m 79 #[.val (.ref ao), .val (.int t)] [(.ref ao), (.int (hg + (1 : Int32))), (.ref ay)])) rfl rfl (hb hby d78m3_79)
      refine OGets.step st90 ?_
      refine OGets.step (fun _ => XS.aloadN X90.here hx rfl (hb hby d78m3_82) rfl rfl) ?_
      obtain ⟨T91, X91, e91, st91⟩ := getF X90 hx hZ hown (host := "") (Or.inl (hw _ (List.mem_of_getElem? (i := 27) rfl))) Via.refl e90 (V87.fld 0 rfl 5 rfl rfl) (g := (mkF m 83 #[.val (.ref ao), .val (.int t)] [(.ref ao), (.ref au), (.int (hg + (1 : Int32))), (.ref ay)])) rfl rfl (hb hby d78m3_83)
      refine OGets.step st91 ?_
      obtain ⟨cl92, Ar92, S92⟩ := V87.arr 1 rfl
      refine OGets.step (fun _ => X91.iaload hx (j := hg) (v := (.int (gi (si UU hg ((gi UU (hg - (1 : Int32))) + (0 : Int32))) hg))) (by rw [e91]; exact Ar92.1) (State.isArrayOf_alike hZ.alike Ar92.2.1) Ar92.2.2 (own_sin (n := 5) S92 (by simp only [List.length_map, si_len, sj_len, List.length_replicate, hlU]) hh0) (own_sgetI (n := 5) S92 (by simp only [List.length_map, si_len, sj_len, List.length_replicate, hlU]) hh0) (g := (mkF m 86 #[.val (.ref ao), .val (.int t)] [(.int hg), (.ref au), (.int (hg + (1 : Int32))), (.ref ay)])) rfl rfl (hb hby d78m3_86) _) ?_
      refine OGets.step (fun _ => XS.i2l X91.here hx rfl (hb hby d78m3_87) rfl) ?_
      refine OGets.step (fun _ => XS.aloadN X91.here hx rfl (hb hby d78m3_88) rfl rfl) ?_
      obtain ⟨T93, X93, e93, st93⟩ := getF X91 hx hZ hown (host := "") (Or.inl (hw _ (List.mem_of_getElem? (i := 27) rfl))) Via.refl e91 (V87.fld 0 rfl 5 rfl rfl) (g := (mkF m 89 #[.val (.ref ao), .val (.int t)] [(.ref ao), (.long ((gi (si UU hg ((gi UU (hg - (1 : Int32))) + (0 : Int32))) hg).toInt64)), (.int (hg + (1 : Int32))), (.ref ay)])) rfl rfl (hb hby d78m3_89)
      refine OGets.step st93 ?_
      refine OGets.step (fun _ => XS.iconst X93.here hx rfl (hb hby d78m3_92)) ?_
      refine OGets.step (fun _ => XS.iadd X93.here hx rfl (hb hby d78m3_93) rfl) ?_
      refine OGets.step (fun _ => XS.aloadN X93.here hx rfl (hb hby d78m3_94) rfl rfl) ?_
      obtain ⟨T94, X94, e94, st94⟩ := getF X93 hx hZ hown (host := "") (Or.inl (hw _ (List.mem_of_getElem? (i := 11) rfl))) Via.refl e93 (V87.fld 0 rfl 0 rfl rfl) (g := (mkF m 95 #[.val (.ref ao), .val (.int t)] [(.ref ao), (.int (hg + (1 : Int32))), (.long ((gi (si UU hg ((gi UU (hg - (1 : Int32))) + (0 : Int32))) hg).toInt64)), (.int (hg + (1 : Int32))), (.ref ay)])) rfl rfl (hb hby d78m3_95)
      refine OGets.step st94 ?_
      by_cases hc98_95 : (hg + (1 : Int32)) < per
      · refine OGets.step (fun _ => XS.icmpYes X94.here hx rfl (pc0 := 98) (pc' := 120) rfl (hb hby d78m3_98) rfl (tlt hc98_95).1 (by decide) (by decide)) ?_
        show OGets p e below _ (T94.setTop (mkF m 120 #[.val (.ref ao), .val (.int t)] [(.long ((gi (si UU hg ((gi UU (hg - (1 : Int32))) + (0 : Int32))) hg).toInt64)), (.int (hg + (1 : Int32))), (.ref ay)]))
        refine OGets.step (fun _ => XS.lconst X94.here hx rfl (hb hby d78m3_120)) ?_
        refine OGets.step (fun _ => XS.ladd X94.here hx rfl (hb hby d78m3_121) rfl) ?_
        obtain ⟨cl96, Ar96, S96⟩ := V87.arr 4 rfl
        obtain ⟨T96, h96, X96, e96, W96, st96⟩ := stJ X94 hx hZ e94 Ar96 (j := (hg + (1 : Int32))) (own_sin (n := 6) S96 (by simp only [List.length_map, si_len, sj_len, List.length_replicate, hlY]) hh2) (g := (mkF m 122 #[.val (.ref ao), .val (.int t)] [(.long (((gi (si UU hg ((gi UU (hg - (1 : Int32))) + (0 : Int32))) hg).toInt64) + (0 : Int64))), (.int (hg + (1 : Int32))), (.ref ay)])) rfl rfl (hb hby d78m3_122)
        have V96 : OView Z n0 h96 (oC ao [(.int per), (.ref au), (.ref ac), (.ref ab), (.ref ay), (.int hg)] :: oA au (si UU hg ((gi UU (hg - (1 : Int32))) + (0 : Int32))) :: oA ac (si CC hg (0 : Int32)) :: oA ab (si BB hg (0 : Int32)) :: oJ ay (sj YY (hg + (1 : Int32)) (((gi (si UU hg ((gi UU (hg - (1 : Int32))) + (0 : Int32))) hg).toInt64) + (0 : Int64))) :: F) := V87.putJ 4 rfl W96
        have N96 := Fr.snoc X96 N87 (V87.old 4 rfl)
        have Z96 : n0 ≤ h96.size := by rw [W96.size]; exact Z87
        refine OGets.step st96 ?_
        refine OGets.step (fun _ => XS.aloadN X96.here hx rfl (hb hby d78m3_123) rfl rfl) ?_
        refine OGets.step (fun _ => XS.dup X96.here hx rfl (hb hby d78m3_124) rfl rfl) ?_
        obtain ⟨T97, X97, e97, st97⟩ := getF X96 hx hZ hown (host := "") (Or.inl (hw _ (List.mem_of_getElem? (i := 27) rfl))) Via.refl e96 (V96.fld 0 rfl 5 rfl rfl) (g := (mkF m 125 #[.val (.ref ao), .val (.int t)] [(.ref ao), (.ref ao)])) rfl rfl (hb hby d78m3_125)
        refine OGets.step st97 ?_
        refine OGets.step (fun _ => XS.iconst X97.here hx rfl (hb hby d78m3_128)) ?_
        refine OGets.step (fun _ => XS.iadd X97.here hx rfl (hb hby d78m3_129) rfl) ?_
        obtain ⟨T98, h98, X98, e98, W98, st98⟩ := putF X97 hx hZ hown (host := "") (Or.inl (hw _ (List.mem_of_getElem? (i := 27) rfl))) Via.refl e97 (V96.fld 0 rfl 5 rfl rfl) (V96.exa 0 rfl) (Or.inl (hw _ (List.mem_of_getElem? (i := 28) rfl))) (hw _ (List.mem_of_getElem? (i := 3) rfl)) (ty := .int) (by decide) rfl rfl (g := (mkF m 130 #[.val (.ref ao), .val (.int t)] [(.int (hg + (1 : Int32))), (.ref ao)])) rfl rfl (hb hby d78m3_130)
        have V98 : OView Z n0 h98 (oC ao [(.int per), (.ref au), (.ref ac), (.ref ab), (.ref ay), (.int (hg + (1 : Int32)))] :: oA au (si UU hg ((gi UU (hg - (1 : Int32))) + (0 : Int32))) :: oA ac (si CC hg (0 : Int32)) :: oA ab (si BB hg (0 : Int32)) :: oJ ay (sj YY (hg + (1 : Int32)) (((gi (si UU hg ((gi UU (hg - (1 : Int32))) + (0 : Int32))) hg).toInt64) + (0 : Int64))) :: F) := V96.putF 0 rfl 5 rfl W98
        have N98 := Fr.snoc X98 N96 (V96.old 0 rfl)
        have Z98 : n0 ≤ h98.size := by rw [W98.size]; exact Z96
        refine OGets.step st98 ?_
        refine OGets.retV X98 hx hlk Bd.returns (hb hby d78m3_133) (Nat.le_of_ble_eq_true rfl) (Nat.le_of_ble_eq_true rfl) ?_
        have t1 : puU UU hg t = (si UU hg ((gi UU (hg - (1 : Int32))) + (0 : Int32))) := by unfold puU puX; rw [if_pos hc12_75, if_pos hc31_79]; first | done | rfl
        have t2 : puY UU YY per hg t = (sj YY (hg + (1 : Int32)) (((gi (si UU hg ((gi UU (hg - (1 : Int32))) + (0 : Int32))) hg).toInt64) + (0 : Int64))) := by unfold puY; rw [t1, if_pos hc98_95]; first | done | rfl
        rw [e98]
        refine ⟨rfl, N98, ?_⟩
        rw [t1, t2]
        exact V98
      · refine OGets.step (fun _ => XS.icmpNo X94.here hx rfl (hb hby d78m3_98) rfl (flt hc98_95).1) ?_
        show OGets p e below _ (T94.setTop (mkF m 101 #[.val (.ref ao), .val (.int t)] [(.long ((gi (si UU hg ((gi UU (hg - (1 : Int32))) + (0 : Int32))) hg).toInt64)), (.int (hg + (1 : Int32))), (.ref ay)]))
        refine OGets.step (fun _ => XS.aloadN X94.here hx rfl (hb hby d78m3_101) rfl rfl) ?_
        obtain ⟨T99, X99, e99, st99⟩ := getF X94 hx hZ hown (host := "") (Or.inl (hw _ (List.mem_of_getElem? (i := 20) rfl))) Via.refl e94 (V87.fld 0 rfl 4 rfl rfl) (g := (mkF m 102 #[.val (.ref ao), .val (.int t)] [(.ref ao), (.long ((gi (si UU hg ((gi UU (hg - (1 : Int32))) + (0 : Int32))) hg).toInt64)), (.int (hg + (1 : Int32))), (.ref ay)])) rfl rfl (hb hby d78m3_102)
        refine OGets.step st99 ?_
        refine OGets.step (fun _ => XS.aloadN X99.here hx rfl (hb hby d78m3_105) rfl rfl) ?_
        obtain ⟨T100, X100, e100, st100⟩ := getF X99 hx hZ hown (host := "") (Or.inl (hw _ (List.mem_of_getElem? (i := 27) rfl))) Via.refl e99 (V87.fld 0 rfl 5 rfl rfl) (g := (mkF m 106 #[.val (.ref ao), .val (.int t)] [(.ref ao), (.ref ay), (.long ((gi (si UU hg ((gi UU (hg - (1 : Int32))) + (0 : Int32))) hg).toInt64)), (.int (hg + (1 : Int32))), (.ref ay)])) rfl rfl (hb hby d78m3_106)
        refine OGets.step st100 ?_
        refine OGets.step (fun _ => XS.iconst X100.here hx rfl (hb hby d78m3_109)) ?_
        refine OGets.step (fun _ => XS.iadd X100.here hx rfl (hb hby d78m3_110) rfl) ?_
        refine OGets.step (fun _ => XS.aloadN X100.here hx rfl (hb hby d78m3_111) rfl rfl) ?_
        obtain ⟨T101, X101, e101, st101⟩ := getF X100 hx hZ hown (host := "") (Or.inl (hw _ (List.mem_of_getElem? (i := 11) rfl))) Via.refl e100 (V87.fld 0 rfl 0 rfl rfl) (g := (mkF m 112 #[.val (.ref ao), .val (.int t)] [(.ref ao), (.int (hg + (1 : Int32))), (.ref ay), (.long ((gi (si UU hg ((gi UU (hg - (1 : Int32))) + (0 : Int32))) hg).toInt64)), (.int (hg + (1 : Int32))), (.ref ay)])) rfl rfl (hb hby d78m3_112)
        refine OGets.step st101 ?_
        refine OGets.step (fun _ => XS.isub X101.here hx rfl (hb hby d78m3_115) rfl) ?_
        obtain ⟨cl102, Ar102, S102⟩ := V87.arr 4 rfl
        refine OGets.step (fun _ => X101.laload hx (j := ((hg + (1 : Int32)) - per)) (v := (.long (gj YY ((hg + (1 : Int32)) - per)))) (by rw [e101]; exact Ar102.1) (State.isArrayOf_alike hZ.alike Ar102.2.1) Ar102.2.2 (own_sin (n := 6) S102 (by simp only [List.length_map, si_len, sj_len, List.length_replicate, hlY]) (hh3 hc98_95)) (own_sgetJ (n := 6) S102 (by simp only [List.length_map, si_len, sj_len, List.length_replicate, hlY]) (hh3 hc98_95)) (g := (mkF m 116 #[.val (.ref ao), .val (.int t)] [(.int ((hg + (1 : Int32)) - per)), (.ref ay), (.long ((gi (si UU hg ((gi UU (hg - (1 : Int32))) + (0 : Int32))) hg).toInt64)), (.int (hg + (1 : Int32))), (.ref ay)])) rfl rfl (hb hby d78m3_116) _) ?_
        refine OGets.step (fun _ => XS.goto X101.here hx rfl (pc0 := 117) (pc' := 121) rfl (hb hby d78m3_117) (by decide) (by decide)) ?_
        refine OGets.step (fun _ => XS.ladd X101.here hx rfl (hb hby d78m3_121) rfl) ?_
        obtain ⟨cl103, Ar103, S103⟩ := V87.arr 4 rfl
        obtain ⟨T103, h103, X103, e103, W103, st103⟩ := stJ X101 hx hZ e101 Ar103 (j := (hg + (1 : Int32))) (own_sin (n := 6) S103 (by simp only [List.length_map, si_len, sj_len, List.length_replicate, hlY]) hh2) (g := (mkF m 122 #[.val (.ref ao), .val (.int t)] [(.long (((gi (si UU hg ((gi UU (hg - (1 : Int32))) + (0 : Int32))) hg).toInt64) + (gj YY ((hg + (1 : Int32)) - per)))), (.int (hg + (1 : Int32))), (.ref ay)])) rfl rfl (hb hby d78m3_122)
        have V103 : OView Z n0 h103 (oC ao [(.int per), (.ref au), (.ref ac), (.ref ab), (.ref ay), (.int hg)] :: oA au (si UU hg ((gi UU (hg - (1 : Int32))) + (0 : Int32))) :: oA ac (si CC hg (0 : Int32)) :: oA ab (si BB hg (0 : Int32)) :: oJ ay (sj YY (hg + (1 : Int32)) (((gi (si UU hg ((gi UU (hg - (1 : Int32))) + (0 : Int32))) hg).toInt64) + (gj YY ((hg + (1 : Int32)) - per)))) :: F) := V87.putJ 4 rfl W103
        have N103 := Fr.snoc X103 N87 (V87.old 4 rfl)
        have Z103 : n0 ≤ h103.size := by rw [W103.size]; exact Z87
        refine OGets.step st103 ?_
        refine OGets.step (fun _ => XS.aloadN X103.here hx rfl (hb hby d78m3_123) rfl rfl) ?_
        refine OGets.step (fun _ => XS.dup X103.here hx rfl (hb hby d78m3_124) rfl rfl) ?_
        obtain ⟨T104, X104, e104, st104⟩ := getF X103 hx hZ hown (host := "") (Or.inl (hw _ (List.mem_of_getElem? (i := 27) rfl))) Via.refl e103 (V103.fld 0 rfl 5 rfl rfl) (g := (mkF m 125 #[.val (.ref ao), .val (.int t)] [(.ref ao), (.ref ao)])) rfl rfl (hb hby d78m3_125)
        refine OGets.step st104 ?_
        refine OGets.step (fun _ => XS.iconst X104.here hx rfl (hb hby d78m3_128)) ?_
        refine OGets.step (fun _ => XS.iadd X104.here hx rfl (hb hby d78m3_129) rfl) ?_
        obtain ⟨T105, h105, X105, e105, W105, st105⟩ := putF X104 hx hZ hown (host := "") (Or.inl (hw _ (List.mem_of_getElem? (i := 27) rfl))) Via.refl e104 (V103.fld 0 rfl 5 rfl rfl) (V103.exa 0 rfl) (Or.inl (hw _ (List.mem_of_getElem? (i := 28) rfl))) (hw _ (List.mem_of_getElem? (i := 3) rfl)) (ty := .int) (by decide) rfl rfl (g := (mkF m 130 #[.val (.ref ao), .val (.int t)] [(.int (hg + (1 : Int32))), (.ref ao)])) rfl rfl (hb hby d78m3_130)
        have V105 : OView Z n0 h105 (oC ao [(.int per), (.ref au), (.ref ac), (.ref ab), (.ref ay), (.int (hg + (1 : Int32)))] :: oA au (si UU hg ((gi UU (hg - (1 : Int32))) + (0 : Int32))) :: oA ac (si CC hg (0 : Int32)) :: oA ab (si BB hg (0 : Int32)) :: oJ ay (sj YY (hg + (1 : Int32)) (((gi (si UU hg ((gi UU (hg - (1 : Int32))) + (0 : Int32))) hg).toInt64) + (gj YY ((hg + (1 : Int32)) - per)))) :: F) := V103.putF 0 rfl 5 rfl W105
        have N105 := Fr.snoc X105 N103 (V103.old 0 rfl)
        have Z105 : n0 ≤ h105.size := by rw [W105.size]; exact Z103
        refine OGets.step st105 ?_
        refine OGets.retV X105 hx hlk Bd.returns (hb hby d78m3_133) (Nat.le_of_ble_eq_true rfl) (Nat.le_of_ble_eq_true rfl) ?_
        have t1 : puU UU hg t = (si UU hg ((gi UU (hg - (1 : Int32))) + (0 : Int32))) := by unfold puU puX; rw [if_pos hc12_75, if_pos hc31_79]; first | done | rfl
        have t2 : puY UU YY per hg t = (sj YY (hg + (1 : Int32)) (((gi (si UU hg ((gi UU (hg - (1 : Int32))) + (0 : Int32))) hg).toInt64) + (gj YY ((hg + (1 : Int32)) - per)))) := by unfold puY; rw [t1, if_neg hc98_95]; first | done | rfl
        rw [e105]
        refine ⟨rfl, N105, ?_⟩
        rw [t1, t2]
        exact V105
    · refine OGets.step (fun _ => XS.ifNo X77.here hx rfl (hb hby d78m3_31) rfl ((if0 _ _).trans (feq hc31_79).1)) ?_
      show OGets p e below _ (T77.setTop (mkF m 34 #[.val (.ref ao), .val (.int t)] [(.int (gi UU (hg - (1 : Int32)))), (.int hg), (.ref au)]))
      refine OGets.step (fun _ => XS.iconst X77.here hx rfl (hb hby d78m3_34)) ?_
      refine OGets.step (fun _ => XS.goto X77.here hx rfl (pc0 := 35) (pc' := 39) rfl (hb hby d78m3_35) (by decide) (by decide)) ?_
      refine OGets.step (fun _ => XS.iadd X77.here hx rfl (hb hby d78m3_39) rfl) ?_
      obtain ⟨cl106, Ar106, S106⟩ := V0.arr 1 rfl
      obtain ⟨T106, h106, X106, e106, W106, st106⟩ := stI X77 hx hZ e77 Ar106 (j := hg) (own_sin (n := 5) S106 (by simp only [List.length_map, si_len, sj_len, List.length_replicate, hlU]) hh0) (g := (mkF m 40 #[.val (.ref ao), .val (.int t)] [(.int ((gi UU (hg - (1 : Int32))) + (1 : Int32))), (.int hg), (.ref au)])) rfl rfl (hb hby d78m3_40)
      have V106 : OView Z n0 h106 (oC ao [(.int per), (.ref au), (.ref ac), (.ref ab), (.ref ay), (.int hg)] :: oA au (si UU hg ((gi UU (hg - (1 : Int32))) + (1 : Int32))) :: oA ac CC :: oA ab BB :: oJ ay YY :: F) := V0.putI 1 rfl W106
      have N106 := Fr.snoc X106 N0 (V0.old 1 rfl)
      have Z106 : n0 ≤ h106.size := by rw [W106.size]; exact Z0
      refine OGets.step st106 ?_
      refine OGets.step (fun _ => XS.aloadN X106.here hx rfl (hb hby d78m3_41) rfl rfl) ?_
      obtain ⟨T107, X107, e107, st107⟩ := getF X106 hx hZ hown (host := "") (Or.inl (hw _ (List.mem_of_getElem? (i := 16) rfl))) Via.refl e106 (V106.fld 0 rfl 2 rfl rfl) (g := (mkF m 42 #[.val (.ref ao), .val (.int t)] [(.ref ao)])) rfl rfl (hb hby d78m3_42)
      refine OGets.step st107 ?_
      refine OGets.step (fun _ => XS.aloadN X107.here hx rfl (hb hby d78m3_45) rfl rfl) ?_
      obtain ⟨T108, X108, e108, st108⟩ := getF X107 hx hZ hown (host := "") (Or.inl (hw _ (List.mem_of_getElem? (i := 27) rfl))) Via.refl e107 (V106.fld 0 rfl 5 rfl rfl) (g := (mkF m 46 #[.val (.ref ao), .val (.int t)] [(.ref ao), (.ref ac)])) rfl rfl (hb hby d78m3_46)
      refine OGets.step st108 ?_
      refine OGets.step (fun _ => XS.iconst X108.here hx rfl (hb hby d78m3_49)) ?_
      obtain ⟨cl109, Ar109, S109⟩ := V106.arr 2 rfl
      obtain ⟨T109, h109, X109, e109, W109, st109⟩ := stI X108 hx hZ e108 Ar109 (j := hg) (own_sin (n := 5) S109 (by simp only [List.length_map, si_len, sj_len, List.length_replicate, hlC]) hh0) (g := (mkF m 50 #[.val (.ref ao), .val (.int t)] [(.int 0), (.int hg), (.ref ac)])) rfl rfl (hb hby d78m3_50)
      have V109 : OView Z n0 h109 (oC ao [(.int per), (.ref au), (.ref ac), (.ref ab), (.ref ay), (.int hg)] :: oA au (si UU hg ((gi UU (hg - (1 : Int32))) + (1 : Int32))) :: oA ac (si CC hg (0 : Int32)) :: oA ab BB :: oJ ay YY :: F) := V106.putI 2 rfl W109
      have N109 := Fr.snoc X109 N106 (V106.old 2 rfl)
      have Z109 : n0 ≤ h109.size := by rw [W109.size]; exact Z106
      refine OGets.step st109 ?_
      refine OGets.step (fun _ => XS.aloadN X109.here hx rfl (hb hby d78m3_51) rfl rfl) ?_
      obtain ⟨T110, X110, e110, st110⟩ := getF X109 hx hZ hown (host := "") (Or.inl (hw _ (List.mem_of_getElem? (i := 18) rfl))) Via.refl e109 (V109.fld 0 rfl 3 rfl rfl) (g := (mkF m 52 #[.val (.ref ao), .val (.int t)] [(.ref ao)])) rfl rfl (hb hby d78m3_52)
      refine OGets.step st110 ?_
      refine OGets.step (fun _ => XS.ifnullNo X110.here hx rfl (hb hby d78m3_55) rfl) ?_
      refine OGets.step (fun _ => XS.aloadN X110.here hx rfl (hb hby d78m3_58) rfl rfl) ?_
      obtain ⟨T111, X111, e111, st111⟩ := getF X110 hx hZ hown (host := "") (Or.inl (hw _ (List.mem_of_getElem? (i := 18) rfl))) Via.refl e110 (V109.fld 0 rfl 3 rfl rfl) (g := (mkF m 59 #[.val (.ref ao), .val (.int t)] [(.ref ao)])) rfl rfl (hb hby d78m3_59)
      refine OGets.step st111 ?_
      refine OGets.step (fun _ => XS.aloadN X111.here hx rfl (hb hby d78m3_62) rfl rfl) ?_
      obtain ⟨T112, X112, e112, st112⟩ := getF X111 hx hZ hown (host := "") (Or.inl (hw _ (List.mem_of_getElem? (i := 27) rfl))) Via.refl e111 (V109.fld 0 rfl 5 rfl rfl) (g := (mkF m 63 #[.val (.ref ao), .val (.int t)] [(.ref ao), (.ref ab)])) rfl rfl (hb hby d78m3_63)
      refine OGets.step st112 ?_
      refine OGets.step (fun _ => XS.iconst X112.here hx rfl (hb hby d78m3_66)) ?_
      obtain ⟨cl113, Ar113, S113⟩ := V109.arr 3 rfl
      obtain ⟨T113, h113, X113, e113, W113, st113⟩ := stI X112 hx hZ e112 Ar113 (j := hg) (own_sin (n := 5) S113 (by simp only [List.length_map, si_len, sj_len, List.length_replicate, hlB]) hh0) (g := (mkF m 67 #[.val (.ref ao), .val (.int t)] [(.int 0), (.int hg), (.ref ab)])) rfl rfl (hb hby d78m3_67)
      have V113 : OView Z n0 h113 (oC ao [(.int per), (.ref au), (.ref ac), (.ref ab), (.ref ay), (.int hg)] :: oA au (si UU hg ((gi UU (hg - (1 : Int32))) + (1 : Int32))) :: oA ac (si CC hg (0 : Int32)) :: oA ab (si BB hg (0 : Int32)) :: oJ ay YY :: F) := V109.putI 3 rfl W113
      have N113 := Fr.snoc X113 N109 (V109.old 3 rfl)
      have Z113 : n0 ≤ h113.size := by rw [W113.size]; exact Z109
      refine OGets.step st113 ?_
      refine OGets.step (fun _ => XS.aloadN X113.here hx rfl (hb hby d78m3_68) rfl rfl) ?_
      obtain ⟨T114, X114, e114, st114⟩ := getF X113 hx hZ hown (host := "") (Or.inl (hw _ (List.mem_of_getElem? (i := 20) rfl))) Via.refl e113 (V113.fld 0 rfl 4 rfl rfl) (g := (mkF m 69 #[.val (.ref ao), .val (.int t)] [(.ref ao)])) rfl rfl (hb hby d78m3_69)
      refine OGets.step st114 ?_
      refine OGets.step (fun _ => XS.aloadN X114.here hx rfl (hb hby d78m3_72) rfl rfl) ?_
      obtain ⟨T115, X115, e115, st115⟩ := getF X114 hx hZ hown (host := "") (Or.inl (hw _ (List.mem_of_getElem? (i := 27) rfl))) Via.refl e114 (V113.fld 0 rfl 5 rfl rfl) (g := (mkF m 73 #[.val (.ref ao), .val (.int t)] [(.ref ao), (.ref ay)])) rfl rfl (hb hby d78m3_73)
      refine OGets.step st115 ?_
      refine OGets.step (fun _ => XS.iconst X115.here hx rfl (hb hby d78m3_76)) ?_
      refine OGets.step (fun _ => XS.iadd X115.here hx rfl (hb hby d78m3_77) rfl) ?_
      refine OGets.step (fun _ => XS.aloadN X115.here hx rfl (hb hby d78m3_78) rfl rfl) ?_
      obtain ⟨T116, X116, e116, st116⟩ := getF X115 hx hZ hown (host := "") (Or.inl (hw _ (List.mem_of_getElem? (i := 14) rfl))) Via.refl e115 (V113.fld 0 rfl 1 rfl rfl) (g := (mkF m 79 #[.val (.ref ao), .val (.int t)] [(.ref ao), (.int (hg + (1 : Int32))), (.ref ay)])) rfl rfl (hb hby d78m3_79)
      refine OGets.step st116 ?_
      refine OGets.step (fun _ => XS.aloadN X116.here hx rfl (hb hby d78m3_82) rfl rfl) ?_
      obtain ⟨T117, X117, e117, st117⟩ := getF X116 hx hZ hown (host := "") (Or.inl (hw _ (List.mem_of_getElem? (i := 27) rfl))) Via.refl e116 (V113.fld 0 rfl 5 rfl rfl) (g := (mkF m 83 #[.val (.ref ao), .val (.int t)] [(.ref ao), (.ref au), (.int (hg + (1 : Int32))), (.ref ay)])) rfl rfl (hb hby d78m3_83)
      refine OGets.step st117 ?_
      obtain ⟨cl118, Ar118, S118⟩ := V113.arr 1 rfl
      refine OGets.step (fun _ => X117.iaload hx (j := hg) (v := (.int (gi (si UU hg ((gi UU (hg - (1 : Int32))) + (1 : Int32))) hg))) (by rw [e117]; exact Ar118.1) (State.isArrayOf_alike hZ.alike Ar118.2.1) Ar118.2.2 (own_sin (n := 5) S118 (by simp only [List.length_map, si_len, sj_len, List.length_replicate, hlU]) hh0) (own_sgetI (n := 5) S118 (by simp only [List.length_map, si_len, sj_len, List.length_replicate, hlU]) hh0) (g := (mkF m 86 #[.val (.ref ao), .val (.int t)] [(.int hg), (.ref au), (.int (hg + (1 : Int32))), (.ref ay)])) rfl rfl (hb hby d78m3_86) _) ?_
      refine OGets.step (fun _ => XS.i2l X117.here hx rfl (hb hby d78m3_87) rfl) ?_
      refine OGets.step (fun _ => XS.aloadN X117.here hx rfl (hb hby d78m3_88) rfl rfl) ?_
      obtain ⟨T119, X119, e119, st119⟩ := getF X117 hx hZ hown (host := "") (Or.inl (hw _ (List.mem_of_getElem? (i := 27) rfl))) Via.refl e117 (V113.fld 0 rfl 5 rfl rfl) (g := (mkF m 89 #[.val (.ref ao), .val (.int t)] [(.ref ao), (.long ((gi (si UU hg ((gi UU (hg - (1 : Int32))) + (1 : Int32))) hg).toInt64)), (.int (hg + (1 : Int32))), (.ref ay)])) rfl rfl (hb hby d78m3_89)
      refine OGets.step st119 ?_
      refine OGets.step (fun _ => XS.iconst X119.here hx rfl (hb hby d78m3_92)) ?_
      refine OGets.step (fun _ => XS.iadd X119.here hx rfl (hb hby d78m3_93) rfl) ?_
      refine OGets.step (fun _ => XS.aloadN X119.here hx rfl (hb hby d78m3_94) rfl rfl) ?_
      obtain ⟨T120, X120, e120, st120⟩ := getF X119 hx hZ hown (host := "") (Or.inl (hw _ (List.mem_of_getElem? (i := 11) rfl))) Via.refl e119 (V113.fld 0 rfl 0 rfl rfl) (g := (mkF m 95 #[.val (.ref ao), .val (.int t)] [(.ref ao), (.int (hg + (1 : Int32))), (.long ((gi (si UU hg ((gi UU (hg - (1 : Int32))) + (1 : Int32))) hg).toInt64)), (.int (hg + (1 : Int32))), (.ref ay)])) rfl rfl (hb hby d78m3_95)
      refine OGets.step st120 ?_
      by_cases hc98_121 : (hg + (1 : Int32)) < per
      · refine OGets.step (fun _ => XS.icmpYes X120.here hx rfl (pc0 := 98) (pc' := 120) rfl (hb hby d78m3_98) rfl (tlt hc98_121).1 (by decide) (by decide)) ?_
        show OGets p e below _ (T120.setTop (mkF m 120 #[.val (.ref ao), .val (.int t)] [(.long ((gi (si UU hg ((gi UU (hg - (1 : Int32))) + (1 : Int32))) hg).toInt64)), (.int (hg + (1 : Int32))), (.ref ay)]))
        refine OGets.step (fun _ => XS.lconst X120.here hx rfl (hb hby d78m3_120)) ?_
        refine OGets.step (fun _ => XS.ladd X120.here hx rfl (hb hby d78m3_121) rfl) ?_
        obtain ⟨cl122, Ar122, S122⟩ := V113.arr 4 rfl
        obtain ⟨T122, h122, X122, e122, W122, st122⟩ := stJ X120 hx hZ e120 Ar122 (j := (hg + (1 : Int32))) (own_sin (n := 6) S122 (by simp only [List.length_map, si_len, sj_len, List.length_replicate, hlY]) hh2) (g := (mkF m 122 #[.val (.ref ao), .val (.int t)] [(.long (((gi (si UU hg ((gi UU (hg - (1 : Int32))) + (1 : Int32))) hg).toInt64) + (0 : Int64))), (.int (hg + (1 : Int32))), (.ref ay)])) rfl rfl (hb hby d78m3_122)
        have V122 : OView Z n0 h122 (oC ao [(.int per), (.ref au), (.ref ac), (.ref ab), (.ref ay), (.int hg)] :: oA au (si UU hg ((gi UU (hg - (1 : Int32))) + (1 : Int32))) :: oA ac (si CC hg (0 : Int32)) :: oA ab (si BB hg (0 : Int32)) :: oJ ay (sj YY (hg + (1 : Int32)) (((gi (si UU hg ((gi UU (hg - (1 : Int32))) + (1 : Int32))) hg).toInt64) + (0 : Int64))) :: F) := V113.putJ 4 rfl W122
        have N122 := Fr.snoc X122 N113 (V113.old 4 rfl)
        have Z122 : n0 ≤ h122.size := by rw [W122.size]; exact Z113
        refine OGets.step st122 ?_
        refine OGets.step (fun _ => XS.aloadN X122.here hx rfl (hb hby d78m3_123) rfl rfl) ?_
        refine OGets.step (fun _ => XS.dup X122.here hx rfl (hb hby d78m3_124) rfl rfl) ?_
        obtain ⟨T123, X123, e123, st123⟩ := getF X122 hx hZ hown (host := "") (Or.inl (hw _ (List.mem_of_getElem? (i := 27) rfl))) Via.refl e122 (V122.fld 0 rfl 5 rfl rfl) (g := (mkF m 125 #[.val (.ref ao), .val (.int t)] [(.ref ao), (.ref ao)])) rfl rfl (hb hby d78m3_125)
        refine OGets.step st123 ?_
        refine OGets.step (fun _ => XS.iconst X123.here hx rfl (hb hby d78m3_128)) ?_
        refine OGets.step (fun _ => XS.iadd X123.here hx rfl (hb hby d78m3_129) rfl) ?_
        obtain ⟨T124, h124, X124, e124, W124, st124⟩ := putF X123 hx hZ hown (host := "") (Or.inl (hw _ (List.mem_of_getElem? (i := 27) rfl))) Via.refl e123 (V122.fld 0 rfl 5 rfl rfl) (V122.exa 0 rfl) (Or.inl (hw _ (List.mem_of_getElem? (i := 28) rfl))) (hw _ (List.mem_of_getElem? (i := 3) rfl)) (ty := .int) (by decide) rfl rfl (g := (mkF m 130 #[.val (.ref ao), .val (.int t)] [(.int (hg + (1 : Int32))), (.ref ao)])) rfl rfl (hb hby d78m3_130)
        have V124 : OView Z n0 h124 (oC ao [(.int per), (.ref au), (.ref ac), (.ref ab), (.ref ay), (.int (hg + (1 : Int32)))] :: oA au (si UU hg ((gi UU (hg - (1 : Int32))) + (1 : Int32))) :: oA ac (si CC hg (0 : Int32)) :: oA ab (si BB hg (0 : Int32)) :: oJ ay (sj YY (hg + (1 : Int32)) (((gi (si UU hg ((gi UU (hg - (1 : Int32))) + (1 : Int32))) hg).toInt64) + (0 : Int64))) :: F) := V122.putF 0 rfl 5 rfl W124
        have N124 := Fr.snoc X124 N122 (V122.old 0 rfl)
        have Z124 : n0 ≤ h124.size := by rw [W124.size]; exact Z122
        refine OGets.step st124 ?_
        refine OGets.retV X124 hx hlk Bd.returns (hb hby d78m3_133) (Nat.le_of_ble_eq_true rfl) (Nat.le_of_ble_eq_true rfl) ?_
        have t1 : puU UU hg t = (si UU hg ((gi UU (hg - (1 : Int32))) + (1 : Int32))) := by unfold puU puX; rw [if_pos hc12_75, if_neg hc31_79]; first | done | rfl
        have t2 : puY UU YY per hg t = (sj YY (hg + (1 : Int32)) (((gi (si UU hg ((gi UU (hg - (1 : Int32))) + (1 : Int32))) hg).toInt64) + (0 : Int64))) := by unfold puY; rw [t1, if_pos hc98_121]; first | done | rfl
        rw [e124]
        refine ⟨rfl, N124, ?_⟩
        rw [t1, t2]
        exact V124
      · refine OGets.step (fun _ => XS.icmpNo X120.here hx rfl (hb hby d78m3_98) rfl (flt hc98_121).1) ?_
        show OGets p e below _ (T120.setTop (mkF m 101 #[.val (.ref ao), .val (.int t)] [(.long ((gi (si UU hg ((gi UU (hg - (1 : Int32))) + (1 : Int32))) hg).toInt64)), (.int (hg + (1 : Int32))), (.ref ay)]))
        refine OGets.step (fun _ => XS.aloadN X120.here hx rfl (hb hby d78m3_101) rfl rfl) ?_
        obtain ⟨T125, X125, e125, st125⟩ := getF X120 hx hZ hown (host := "") (Or.inl (hw _ (List.mem_of_getElem? (i := 20) rfl))) Via.refl e120 (V113.fld 0 rfl 4 rfl rfl) (g := (mkF m 102 #[.val (.ref ao), .val (.int t)] [(.ref ao), (.long ((gi (si UU hg ((gi UU (hg - (1 : Int32))) + (1 : Int32))) hg).toInt64)), (.int (hg + (1 : Int32))), (.ref ay)])) rfl rfl (hb hby d78m3_102)
        refine OGets.step st125 ?_
        refine OGets.step (fun _ => XS.aloadN X125.here hx rfl (hb hby d78m3_105) rfl rfl) ?_
        obtain ⟨T126, X126, e126, st126⟩ := getF X125 hx hZ hown (host := "") (Or.inl (hw _ (List.mem_of_getElem? (i := 27) rfl))) Via.refl e125 (V113.fld 0 rfl 5 rfl rfl) (g := (mkF m 106 #[.val (.ref ao), .val (.int t)] [(.ref ao), (.ref ay), (.long ((gi (si UU hg ((gi UU (hg - (1 : Int32))) + (1 : Int32))) hg).toInt64)), (.int (hg + (1 : Int32))), (.ref ay)])) rfl rfl (hb hby d78m3_106)
        refine OGets.step st126 ?_
        refine OGets.step (fun _ => XS.iconst X126.here hx rfl (hb hby d78m3_109)) ?_
        refine OGets.step (fun _ => XS.iadd X126.here hx rfl (hb hby d78m3_110) rfl) ?_
        refine OGets.step (fun _ => XS.aloadN X126.here hx rfl (hb hby d78m3_111) rfl rfl) ?_
        obtain ⟨T127, X127, e127, st127⟩ := getF X126 hx hZ hown (host := "") (Or.inl (hw _ (List.mem_of_getElem? (i := 11) rfl))) Via.refl e126 (V113.fld 0 rfl 0 rfl rfl) (g := (mkF m 112 #[.val (.ref ao), .val (.int t)] [(.ref ao), (.int (hg + (1 : Int32))), (.ref ay), (.long ((gi (si UU hg ((gi UU (hg - (1 : Int32))) + (1 : Int32))) hg).toInt64)), (.int (hg + (1 : Int32))), (.ref ay)])) rfl rfl (hb hby d78m3_112)
        refine OGets.step st127 ?_
        refine OGets.step (fun _ => XS.isub X127.here hx rfl (hb hby d78m3_115) rfl) ?_
        obtain ⟨cl128, Ar128, S128⟩ := V113.arr 4 rfl
        refine OGets.step (fun _ => X127.laload hx (j := ((hg + (1 : Int32)) - per)) (v := (.long (gj YY ((hg + (1 : Int32)) - per)))) (by rw [e127]; exact Ar128.1) (State.isArrayOf_alike hZ.alike Ar128.2.1) Ar128.2.2 (own_sin (n := 6) S128 (by simp only [List.length_map, si_len, sj_len, List.length_replicate, hlY]) (hh3 hc98_121)) (own_sgetJ (n := 6) S128 (by simp only [List.length_map, si_len, sj_len, List.length_replicate, hlY]) (hh3 hc98_121)) (g := (mkF m 116 #[.val (.ref ao), .val (.int t)] [(.int ((hg + (1 : Int32)) - per)), (.ref ay), (.long ((gi (si UU hg ((gi UU (hg - (1 : Int32))) + (1 : Int32))) hg).toInt64)), (.int (hg + (1 : Int32))), (.ref ay)])) rfl rfl (hb hby d78m3_116) _) ?_
        refine OGets.step (fun _ => XS.goto X127.here hx rfl (pc0 := 117) (pc' := 121) rfl (hb hby d78m3_117) (by decide) (by decide)) ?_
        refine OGets.step (fun _ => XS.ladd X127.here hx rfl (hb hby d78m3_121) rfl) ?_
        obtain ⟨cl129, Ar129, S129⟩ := V113.arr 4 rfl
        obtain ⟨T129, h129, X129, e129, W129, st129⟩ := stJ X127 hx hZ e127 Ar129 (j := (hg + (1 : Int32))) (own_sin (n := 6) S129 (by simp only [List.length_map, si_len, sj_len, List.length_replicate, hlY]) hh2) (g := (mkF m 122 #[.val (.ref ao), .val (.int t)] [(.long (((gi (si UU hg ((gi UU (hg - (1 : Int32))) + (1 : Int32))) hg).toInt64) + (gj YY ((hg + (1 : Int32)) - per)))), (.int (hg + (1 : Int32))), (.ref ay)])) rfl rfl (hb hby d78m3_122)
        have V129 : OView Z n0 h129 (oC ao [(.int per), (.ref au), (.ref ac), (.ref ab), (.ref ay), (.int hg)] :: oA au (si UU hg ((gi UU (hg - (1 : Int32))) + (1 : Int32))) :: oA ac (si CC hg (0 : Int32)) :: oA ab (si BB hg (0 : Int32)) :: oJ ay (sj YY (hg + (1 : Int32)) (((gi (si UU hg ((gi UU (hg - (1 : Int32))) + (1 : Int32))) hg).toInt64) + (gj YY ((hg + (1 : Int32)) - per)))) :: F) := V113.putJ 4 rfl W129
        have N129 := Fr.snoc X129 N113 (V113.old 4 rfl)
        have Z129 : n0 ≤ h129.size := by rw [W129.size]; exact Z113
        refine OGets.step st129 ?_
        refine OGets.step (fun _ => XS.aloadN X129.here hx rfl (hb hby d78m3_123) rfl rfl) ?_
        refine OGets.step (fun _ => XS.dup X129.here hx rfl (hb hby d78m3_124) rfl rfl) ?_
        obtain ⟨T130, X130, e130, st130⟩ := getF X129 hx hZ hown (host := "") (Or.inl (hw _ (List.mem_of_getElem? (i := 27) rfl))) Via.refl e129 (V129.fld 0 rfl 5 rfl rfl) (g := (mkF m 125 #[.val (.ref ao), .val (.int t)] [(.ref ao), (.ref ao)])) rfl rfl (hb hby d78m3_125)
        refine OGets.step st130 ?_
        refine OGets.step (fun _ => XS.iconst X130.here hx rfl (hb hby d78m3_128)) ?_
        refine OGets.step (fun _ => XS.iadd X130.here hx rfl (hb hby d78m3_129) rfl) ?_
        obtain ⟨T131, h131, X131, e131, W131, st131⟩ := putF X130 hx hZ hown (host := "") (Or.inl (hw _ (List.mem_of_getElem? (i := 27) rfl))) Via.refl e130 (V129.fld 0 rfl 5 rfl rfl) (V129.exa 0 rfl) (Or.inl (hw _ (List.mem_of_getElem? (i := 28) rfl))) (hw _ (List.mem_of_getElem? (i := 3) rfl)) (ty := .int) (by decide) rfl rfl (g := (mkF m 130 #[.val (.ref ao), .val (.int t)] [(.int (hg + (1 : Int32))), (.ref ao)])) rfl rfl (hb hby d78m3_130)
        have V131 : OView Z n0 h131 (oC ao [(.int per), (.ref au), (.ref ac), (.ref ab), (.ref ay), (.int (hg + (1 : Int32)))] :: oA au (si UU hg ((gi UU (hg - (1 : Int32))) + (1 : Int32))) :: oA ac (si CC hg (0 : Int32)) :: oA ab (si BB hg (0 : Int32)) :: oJ ay (sj YY (hg + (1 : Int32)) (((gi (si UU hg ((gi UU (hg - (1 : Int32))) + (1 : Int32))) hg).toInt64) + (gj YY ((hg + (1 : Int32)) - per)))) :: F) := V129.putF 0 rfl 5 rfl W131
        have N131 := Fr.snoc X131 N129 (V129.old 0 rfl)
        have Z131 : n0 ≤ h131.size := by rw [W131.size]; exact Z129
        refine OGets.step st131 ?_
        refine OGets.retV X131 hx hlk Bd.returns (hb hby d78m3_133) (Nat.le_of_ble_eq_true rfl) (Nat.le_of_ble_eq_true rfl) ?_
        have t1 : puU UU hg t = (si UU hg ((gi UU (hg - (1 : Int32))) + (1 : Int32))) := by unfold puU puX; rw [if_pos hc12_75, if_neg hc31_79]; first | done | rfl
        have t2 : puY UU YY per hg t = (sj YY (hg + (1 : Int32)) (((gi (si UU hg ((gi UU (hg - (1 : Int32))) + (1 : Int32))) hg).toInt64) + (gj YY ((hg + (1 : Int32)) - per)))) := by unfold puY; rw [t1, if_neg hc98_121]; first | done | rfl
        rw [e131]
        refine ⟨rfl, N131, ?_⟩
        rw [t1, t2]
        exact V131
  · refine OGets.step (fun _ => XS.ifYes X74.here hx rfl (pc0 := 12) (pc' := 29) rfl (hb hby d78m3_12) rfl ((if0 _ _).trans (flt hc12_75).2.2.2) (by decide) (by decide)) ?_
    show OGets p e below _ (T74.setTop (mkF m 29 #[.val (.ref ao), .val (.int t)] [(.int hg), (.ref au)]))
    refine OGets.step (fun _ => XS.iconst X74.here hx rfl (hb hby d78m3_29)) ?_
    refine OGets.step (fun _ => XS.iloadN X74.here hx rfl (hb hby d78m3_30) rfl) ?_
    by_cases hc31_132 : t = (0 : Int32)
    · refine OGets.step (fun _ => XS.ifYes X74.here hx rfl (pc0 := 31) (pc' := 38) rfl (hb hby d78m3_31) rfl ((if0 _ _).trans (teq hc31_132).1) (by decide) (by decide)) ?_
      show OGets p e below _ (T74.setTop (mkF m 38 #[.val (.ref ao), .val (.int t)] [(.int 0), (.int hg), (.ref au)]))
      refine OGets.step (fun _ => XS.iconst X74.here hx rfl (hb hby d78m3_38)) ?_
      refine OGets.step (fun _ => XS.iadd X74.here hx rfl (hb hby d78m3_39) rfl) ?_
      show OGets p e below _ (T74.setTop (mkF m 40 #[.val (.ref ao), .val (.int t)] [(.int 0), (.int hg), (.ref au)]))
      obtain ⟨cl133, Ar133, S133⟩ := V0.arr 1 rfl
      obtain ⟨T133, h133, X133, e133, W133, st133⟩ := stI X74 hx hZ e74 Ar133 (j := hg) (own_sin (n := 5) S133 (by simp only [List.length_map, si_len, sj_len, List.length_replicate, hlU]) hh0) (g := (mkF m 40 #[.val (.ref ao), .val (.int t)] [(.int 0), (.int hg), (.ref au)])) rfl rfl (hb hby d78m3_40)
      have V133 : OView Z n0 h133 (oC ao [(.int per), (.ref au), (.ref ac), (.ref ab), (.ref ay), (.int hg)] :: oA au (si UU hg (0 : Int32)) :: oA ac CC :: oA ab BB :: oJ ay YY :: F) := V0.putI 1 rfl W133
      have N133 := Fr.snoc X133 N0 (V0.old 1 rfl)
      have Z133 : n0 ≤ h133.size := by rw [W133.size]; exact Z0
      refine OGets.step st133 ?_
      refine OGets.step (fun _ => XS.aloadN X133.here hx rfl (hb hby d78m3_41) rfl rfl) ?_
      obtain ⟨T134, X134, e134, st134⟩ := getF X133 hx hZ hown (host := "") (Or.inl (hw _ (List.mem_of_getElem? (i := 16) rfl))) Via.refl e133 (V133.fld 0 rfl 2 rfl rfl) (g := (mkF m 42 #[.val (.ref ao), .val (.int t)] [(.ref ao)])) rfl rfl (hb hby d78m3_42)
      refine OGets.step st134 ?_
      refine OGets.step (fun _ => XS.aloadN X134.here hx rfl (hb hby d78m3_45) rfl rfl) ?_
      obtain ⟨T135, X135, e135, st135⟩ := getF X134 hx hZ hown (host := "") (Or.inl (hw _ (List.mem_of_getElem? (i := 27) rfl))) Via.refl e134 (V133.fld 0 rfl 5 rfl rfl) (g := (mkF m 46 #[.val (.ref ao), .val (.int t)] [(.ref ao), (.ref ac)])) rfl rfl (hb hby d78m3_46)
      refine OGets.step st135 ?_
      refine OGets.step (fun _ => XS.iconst X135.here hx rfl (hb hby d78m3_49)) ?_
      obtain ⟨cl136, Ar136, S136⟩ := V133.arr 2 rfl
      obtain ⟨T136, h136, X136, e136, W136, st136⟩ := stI X135 hx hZ e135 Ar136 (j := hg) (own_sin (n := 5) S136 (by simp only [List.length_map, si_len, sj_len, List.length_replicate, hlC]) hh0) (g := (mkF m 50 #[.val (.ref ao), .val (.int t)] [(.int 0), (.int hg), (.ref ac)])) rfl rfl (hb hby d78m3_50)
      have V136 : OView Z n0 h136 (oC ao [(.int per), (.ref au), (.ref ac), (.ref ab), (.ref ay), (.int hg)] :: oA au (si UU hg (0 : Int32)) :: oA ac (si CC hg (0 : Int32)) :: oA ab BB :: oJ ay YY :: F) := V133.putI 2 rfl W136
      have N136 := Fr.snoc X136 N133 (V133.old 2 rfl)
      have Z136 : n0 ≤ h136.size := by rw [W136.size]; exact Z133
      refine OGets.step st136 ?_
      refine OGets.step (fun _ => XS.aloadN X136.here hx rfl (hb hby d78m3_51) rfl rfl) ?_
      obtain ⟨T137, X137, e137, st137⟩ := getF X136 hx hZ hown (host := "") (Or.inl (hw _ (List.mem_of_getElem? (i := 18) rfl))) Via.refl e136 (V136.fld 0 rfl 3 rfl rfl) (g := (mkF m 52 #[.val (.ref ao), .val (.int t)] [(.ref ao)])) rfl rfl (hb hby d78m3_52)
      refine OGets.step st137 ?_
      refine OGets.step (fun _ => XS.ifnullNo X137.here hx rfl (hb hby d78m3_55) rfl) ?_
      refine OGets.step (fun _ => XS.aloadN X137.here hx rfl (hb hby d78m3_58) rfl rfl) ?_
      obtain ⟨T138, X138, e138, st138⟩ := getF X137 hx hZ hown (host := "") (Or.inl (hw _ (List.mem_of_getElem? (i := 18) rfl))) Via.refl e137 (V136.fld 0 rfl 3 rfl rfl) (g := (mkF m 59 #[.val (.ref ao), .val (.int t)] [(.ref ao)])) rfl rfl (hb hby d78m3_59)
      refine OGets.step st138 ?_
      refine OGets.step (fun _ => XS.aloadN X138.here hx rfl (hb hby d78m3_62) rfl rfl) ?_
      obtain ⟨T139, X139, e139, st139⟩ := getF X138 hx hZ hown (host := "") (Or.inl (hw _ (List.mem_of_getElem? (i := 27) rfl))) Via.refl e138 (V136.fld 0 rfl 5 rfl rfl) (g := (mkF m 63 #[.val (.ref ao), .val (.int t)] [(.ref ao), (.ref ab)])) rfl rfl (hb hby d78m3_63)
      refine OGets.step st139 ?_
      refine OGets.step (fun _ => XS.iconst X139.here hx rfl (hb hby d78m3_66)) ?_
      obtain ⟨cl140, Ar140, S140⟩ := V136.arr 3 rfl
      obtain ⟨T140, h140, X140, e140, W140, st140⟩ := stI X139 hx hZ e139 Ar140 (j := hg) (own_sin (n := 5) S140 (by simp only [List.length_map, si_len, sj_len, List.length_replicate, hlB]) hh0) (g := (mkF m 67 #[.val (.ref ao), .val (.int t)] [(.int 0), (.int hg), (.ref ab)])) rfl rfl (hb hby d78m3_67)
      have V140 : OView Z n0 h140 (oC ao [(.int per), (.ref au), (.ref ac), (.ref ab), (.ref ay), (.int hg)] :: oA au (si UU hg (0 : Int32)) :: oA ac (si CC hg (0 : Int32)) :: oA ab (si BB hg (0 : Int32)) :: oJ ay YY :: F) := V136.putI 3 rfl W140
      have N140 := Fr.snoc X140 N136 (V136.old 3 rfl)
      have Z140 : n0 ≤ h140.size := by rw [W140.size]; exact Z136
      refine OGets.step st140 ?_
      refine OGets.step (fun _ => XS.aloadN X140.here hx rfl (hb hby d78m3_68) rfl rfl) ?_
      obtain ⟨T141, X141, e141, st141⟩ := getF X140 hx hZ hown (host := "") (Or.inl (hw _ (List.mem_of_getElem? (i := 20) rfl))) Via.refl e140 (V140.fld 0 rfl 4 rfl rfl) (g := (mkF m 69 #[.val (.ref ao), .val (.int t)] [(.ref ao)])) rfl rfl (hb hby d78m3_69)
      refine OGets.step st141 ?_
      refine OGets.step (fun _ => XS.aloadN X141.here hx rfl (hb hby d78m3_72) rfl rfl) ?_
      obtain ⟨T142, X142, e142, st142⟩ := getF X141 hx hZ hown (host := "") (Or.inl (hw _ (List.mem_of_getElem? (i := 27) rfl))) Via.refl e141 (V140.fld 0 rfl 5 rfl rfl) (g := (mkF m 73 #[.val (.ref ao), .val (.int t)] [(.ref ao), (.ref ay)])) rfl rfl (hb hby d78m3_73)
      refine OGets.step st142 ?_
      refine OGets.step (fun _ => XS.iconst X142.here hx rfl (hb hby d78m3_76)) ?_
      refine OGets.step (fun _ => XS.iadd X142.here hx rfl (hb hby d78m3_77) rfl) ?_
      refine OGets.step (fun _ => XS.aloadN X142.here hx rfl (hb hby d78m3_78) rfl rfl) ?_
      obtain ⟨T143, X143, e143, st143⟩ := getF X142 hx hZ hown (host := "") (Or.inl (hw _ (List.mem_of_getElem? (i := 14) rfl))) Via.refl e142 (V140.fld 0 rfl 1 rfl rfl) (g := (mkF m 79 #[.val (.ref ao), .val (.int t)] [(.ref ao), (.int (hg + (1 : Int32))), (.ref ay)])) rfl rfl (hb hby d78m3_79)
      refine OGets.step st143 ?_
      refine OGets.step (fun _ => XS.aloadN X143.here hx rfl (hb hby d78m3_82) rfl rfl) ?_
      obtain ⟨T144, X144, e144, st144⟩ := getF X143 hx hZ hown (host := "") (Or.inl (hw _ (List.mem_of_getElem? (i := 27) rfl))) Via.refl e143 (V140.fld 0 rfl 5 rfl rfl) (g := (mkF m 83 #[.val (.ref ao), .val (.int t)] [(.ref ao), (.ref au), (.int (hg + (1 : Int32))), (.ref ay)])) rfl rfl (hb hby d78m3_83)
      refine OGets.step st144 ?_
      obtain ⟨cl145, Ar145, S145⟩ := V140.arr 1 rfl
      refine OGets.step (fun _ => X144.iaload hx (j := hg) (v := (.int (gi (si UU hg (0 : Int32)) hg))) (by rw [e144]; exact Ar145.1) (State.isArrayOf_alike hZ.alike Ar145.2.1) Ar145.2.2 (own_sin (n := 5) S145 (by simp only [List.length_map, si_len, sj_len, List.length_replicate, hlU]) hh0) (own_sgetI (n := 5) S145 (by simp only [List.length_map, si_len, sj_len, List.length_replicate, hlU]) hh0) (g := (mkF m 86 #[.val (.ref ao), .val (.int t)] [(.int hg), (.ref au), (.int (hg + (1 : Int32))), (.ref ay)])) rfl rfl (hb hby d78m3_86) _) ?_
      refine OGets.step (fun _ => XS.i2l X144.here hx rfl (hb hby d78m3_87) rfl) ?_
      refine OGets.step (fun _ => XS.aloadN X144.here hx rfl (hb hby d78m3_88) rfl rfl) ?_
      obtain ⟨T146, X146, e146, st146⟩ := getF X144 hx hZ hown (host := "") (Or.inl (hw _ (List.mem_of_getElem? (i := 27) rfl))) Via.refl e144 (V140.fld 0 rfl 5 rfl rfl) (g := (mkF m 89 #[.val (.ref ao), .val (.int t)] [(.ref ao), (.long ((gi (si UU hg (0 : Int32)) hg).toInt64)), (.int (hg + (1 : Int32))), (.ref ay)])) rfl rfl (hb hby d78m3_89)
      refine OGets.step st146 ?_
      refine OGets.step (fun _ => XS.iconst X146.here hx rfl (hb hby d78m3_92)) ?_
      refine OGets.step (fun _ => XS.iadd X146.here hx rfl (hb hby d78m3_93) rfl) ?_
      refine OGets.step (fun _ => XS.aloadN X146.here hx rfl (hb hby d78m3_94) rfl rfl) ?_
      obtain ⟨T147, X147, e147, st147⟩ := getF X146 hx hZ hown (host := "") (Or.inl (hw _ (List.mem_of_getElem? (i := 11) rfl))) Via.refl e146 (V140.fld 0 rfl 0 rfl rfl) (g := (mkF m 95 #[.val (.ref ao), .val (.int t)] [(.ref ao), (.int (hg + (1 : Int32))), (.long ((gi (si UU hg (0 : Int32)) hg).toInt64)), (.int (hg + (1 : Int32))), (.ref ay)])) rfl rfl (hb hby d78m3_95)
      refine OGets.step st147 ?_
      by_cases hc98_148 : (hg + (1 : Int32)) < per
      · refine OGets.step (fun _ => XS.icmpYes X147.here hx rfl (pc0 := 98) (pc' := 120) rfl (hb hby d78m3_98) rfl (tlt hc98_148).1 (by decide) (by decide)) ?_
        show OGets p e below _ (T147.setTop (mkF m 120 #[.val (.ref ao), .val (.int t)] [(.long ((gi (si UU hg (0 : Int32)) hg).toInt64)), (.int (hg + (1 : Int32))), (.ref ay)]))
        refine OGets.step (fun _ => XS.lconst X147.here hx rfl (hb hby d78m3_120)) ?_
        refine OGets.step (fun _ => XS.ladd X147.here hx rfl (hb hby d78m3_121) rfl) ?_
        obtain ⟨cl149, Ar149, S149⟩ := V140.arr 4 rfl
        obtain ⟨T149, h149, X149, e149, W149, st149⟩ := stJ X147 hx hZ e147 Ar149 (j := (hg + (1 : Int32))) (own_sin (n := 6) S149 (by simp only [List.length_map, si_len, sj_len, List.length_replicate, hlY]) hh2) (g := (mkF m 122 #[.val (.ref ao), .val (.int t)] [(.long (((gi (si UU hg (0 : Int32)) hg).toInt64) + (0 : Int64))), (.int (hg + (1 : Int32))), (.ref ay)])) rfl rfl (hb hby d78m3_122)
        have V149 : OView Z n0 h149 (oC ao [(.int per), (.ref au), (.ref ac), (.ref ab), (.ref ay), (.int hg)] :: oA au (si UU hg (0 : Int32)) :: oA ac (si CC hg (0 : Int32)) :: oA ab (si BB hg (0 : Int32)) :: oJ ay (sj YY (hg + (1 : Int32)) (((gi (si UU hg (0 : Int32)) hg).toInt64) + (0 : Int64))) :: F) := V140.putJ 4 rfl W149
        have N149 := Fr.snoc X149 N140 (V140.old 4 rfl)
        have Z149 : n0 ≤ h149.size := by rw [W149.size]; exact Z140
        refine OGets.step st149 ?_
        refine OGets.step (fun _ => XS.aloadN X149.here hx rfl (hb hby d78m3_123) rfl rfl) ?_
        refine OGets.step (fun _ => XS.dup X149.here hx rfl (hb hby d78m3_124) rfl rfl) ?_
        obtain ⟨T150, X150, e150, st150⟩ := getF X149 hx hZ hown (host := "") (Or.inl (hw _ (List.mem_of_getElem? (i := 27) rfl))) Via.refl e149 (V149.fld 0 rfl 5 rfl rfl) (g := (mkF m 125 #[.val (.ref ao), .val (.int t)] [(.ref ao), (.ref ao)])) rfl rfl (hb hby d78m3_125)
        refine OGets.step st150 ?_
        refine OGets.step (fun _ => XS.iconst X150.here hx rfl (hb hby d78m3_128)) ?_
        refine OGets.step (fun _ => XS.iadd X150.here hx rfl (hb hby d78m3_129) rfl) ?_
        obtain ⟨T151, h151, X151, e151, W151, st151⟩ := putF X150 hx hZ hown (host := "") (Or.inl (hw _ (List.mem_of_getElem? (i := 27) rfl))) Via.refl e150 (V149.fld 0 rfl 5 rfl rfl) (V149.exa 0 rfl) (Or.inl (hw _ (List.mem_of_getElem? (i := 28) rfl))) (hw _ (List.mem_of_getElem? (i := 3) rfl)) (ty := .int) (by decide) rfl rfl (g := (mkF m 130 #[.val (.ref ao), .val (.int t)] [(.int (hg + (1 : Int32))), (.ref ao)])) rfl rfl (hb hby d78m3_130)
        have V151 : OView Z n0 h151 (oC ao [(.int per), (.ref au), (.ref ac), (.ref ab), (.ref ay), (.int (hg + (1 : Int32)))] :: oA au (si UU hg (0 : Int32)) :: oA ac (si CC hg (0 : Int32)) :: oA ab (si BB hg (0 : Int32)) :: oJ ay (sj YY (hg + (1 : Int32)) (((gi (si UU hg (0 : Int32)) hg).toInt64) + (0 : Int64))) :: F) := V149.putF 0 rfl 5 rfl W151
        have N151 := Fr.snoc X151 N149 (V149.old 0 rfl)
        have Z151 : n0 ≤ h151.size := by rw [W151.size]; exact Z149
        refine OGets.step st151 ?_
        refine OGets.retV X151 hx hlk Bd.returns (hb hby d78m3_133) (Nat.le_of_ble_eq_true rfl) (Nat.le_of_ble_eq_true rfl) ?_
        have t1 : puU UU hg t = (si UU hg (0 : Int32)) := by unfold puU puX; rw [if_neg hc12_75, if_pos hc31_132]; first | done | rfl
        have t2 : puY UU YY per hg t = (sj YY (hg + (1 : Int32)) (((gi (si UU hg (0 : Int32)) hg).toInt64) + (0 : Int64))) := by unfold puY; rw [t1, if_pos hc98_148]; first | done | rfl
        rw [e151]
        refine ⟨rfl, N151, ?_⟩
        rw [t1, t2]
        exact V151
      · refine OGets.step (fun _ => XS.icmpNo X147.here hx rfl (hb hby d78m3_98) rfl (flt hc98_148).1) ?_
        show OGets p e below _ (T147.setTop (mkF m 101 #[.val (.ref ao), .val (.int t)] [(.long ((gi (si UU hg (0 : Int32)) hg).toInt64)), (.int (hg + (1 : Int32))), (.ref ay)]))
        refine OGets.step (fun _ => XS.aloadN X147.here hx rfl (hb hby d78m3_101) rfl rfl) ?_
        obtain ⟨T152, X152, e152, st152⟩ := getF X147 hx hZ hown (host := "") (Or.inl (hw _ (List.mem_of_getElem? (i := 20) rfl))) Via.refl e147 (V140.fld 0 rfl 4 rfl rfl) (g := (mkF m 102 #[.val (.ref ao), .val (.int t)] [(.ref ao), (.long ((gi (si UU hg (0 : Int32)) hg).toInt64)), (.int (hg + (1 : Int32))), (.ref ay)])) rfl rfl (hb hby d78m3_102)
        refine OGets.step st152 ?_
        refine OGets.step (fun _ => XS.aloadN X152.here hx rfl (hb hby d78m3_105) rfl rfl) ?_
        obtain ⟨T153, X153, e153, st153⟩ := getF X152 hx hZ hown (host := "") (Or.inl (hw _ (List.mem_of_getElem? (i := 27) rfl))) Via.refl e152 (V140.fld 0 rfl 5 rfl rfl) (g := (mkF m 106 #[.val (.ref ao), .val (.int t)] [(.ref ao), (.ref ay), (.long ((gi (si UU hg (0 : Int32)) hg).toInt64)), (.int (hg + (1 : Int32))), (.ref ay)])) rfl rfl (hb hby d78m3_106)
        refine OGets.step st153 ?_
        refine OGets.step (fun _ => XS.iconst X153.here hx rfl (hb hby d78m3_109)) ?_
        refine OGets.step (fun _ => XS.iadd X153.here hx rfl (hb hby d78m3_110) rfl) ?_
        refine OGets.step (fun _ => XS.aloadN X153.here hx rfl (hb hby d78m3_111) rfl rfl) ?_
        obtain ⟨T154, X154, e154, st154⟩ := getF X153 hx hZ hown (host := "") (Or.inl (hw _ (List.mem_of_getElem? (i := 11) rfl))) Via.refl e153 (V140.fld 0 rfl 0 rfl rfl) (g := (mkF m 112 #[.val (.ref ao), .val (.int t)] [(.ref ao), (.int (hg + (1 : Int32))), (.ref ay), (.long ((gi (si UU hg (0 : Int32)) hg).toInt64)), (.int (hg + (1 : Int32))), (.ref ay)])) rfl rfl (hb hby d78m3_112)
        refine OGets.step st154 ?_
        refine OGets.step (fun _ => XS.isub X154.here hx rfl (hb hby d78m3_115) rfl) ?_
        obtain ⟨cl155, Ar155, S155⟩ := V140.arr 4 rfl
        refine OGets.step (fun _ => X154.laload hx (j := ((hg + (1 : Int32)) - per)) (v := (.long (gj YY ((hg + (1 : Int32)) - per)))) (by rw [e154]; exact Ar155.1) (State.isArrayOf_alike hZ.alike Ar155.2.1) Ar155.2.2 (own_sin (n := 6) S155 (by simp only [List.length_map, si_len, sj_len, List.length_replicate, hlY]) (hh3 hc98_148)) (own_sgetJ (n := 6) S155 (by simp only [List.length_map, si_len, sj_len, List.length_replicate, hlY]) (hh3 hc98_148)) (g := (mkF m 116 #[.val (.ref ao), .val (.int t)] [(.int ((hg + (1 : Int32)) - per)), (.ref ay), (.long ((gi (si UU hg (0 : Int32)) hg).toInt64)), (.int (hg + (1 : Int32))), (.ref ay)])) rfl rfl (hb hby d78m3_116) _) ?_
        refine OGets.step (fun _ => XS.goto X154.here hx rfl (pc0 := 117) (pc' := 121) rfl (hb hby d78m3_117) (by decide) (by decide)) ?_
        refine OGets.step (fun _ => XS.ladd X154.here hx rfl (hb hby d78m3_121) rfl) ?_
        obtain ⟨cl156, Ar156, S156⟩ := V140.arr 4 rfl
        obtain ⟨T156, h156, X156, e156, W156, st156⟩ := stJ X154 hx hZ e154 Ar156 (j := (hg + (1 : Int32))) (own_sin (n := 6) S156 (by simp only [List.length_map, si_len, sj_len, List.length_replicate, hlY]) hh2) (g := (mkF m 122 #[.val (.ref ao), .val (.int t)] [(.long (((gi (si UU hg (0 : Int32)) hg).toInt64) + (gj YY ((hg + (1 : Int32)) - per)))), (.int (hg + (1 : Int32))), (.ref ay)])) rfl rfl (hb hby d78m3_122)
        have V156 : OView Z n0 h156 (oC ao [(.int per), (.ref au), (.ref ac), (.ref ab), (.ref ay), (.int hg)] :: oA au (si UU hg (0 : Int32)) :: oA ac (si CC hg (0 : Int32)) :: oA ab (si BB hg (0 : Int32)) :: oJ ay (sj YY (hg + (1 : Int32)) (((gi (si UU hg (0 : Int32)) hg).toInt64) + (gj YY ((hg + (1 : Int32)) - per)))) :: F) := V140.putJ 4 rfl W156
        have N156 := Fr.snoc X156 N140 (V140.old 4 rfl)
        have Z156 : n0 ≤ h156.size := by rw [W156.size]; exact Z140
        refine OGets.step st156 ?_
        refine OGets.step (fun _ => XS.aloadN X156.here hx rfl (hb hby d78m3_123) rfl rfl) ?_
        refine OGets.step (fun _ => XS.dup X156.here hx rfl (hb hby d78m3_124) rfl rfl) ?_
        obtain ⟨T157, X157, e157, st157⟩ := getF X156 hx hZ hown (host := "") (Or.inl (hw _ (List.mem_of_getElem? (i := 27) rfl))) Via.refl e156 (V156.fld 0 rfl 5 rfl rfl) (g := (mkF m 125 #[.val (.ref ao), .val (.int t)] [(.ref ao), (.ref ao)])) rfl rfl (hb hby d78m3_125)
        refine OGets.step st157 ?_
        refine OGets.step (fun _ => XS.iconst X157.here hx rfl (hb hby d78m3_128)) ?_
        refine OGets.step (fun _ => XS.iadd X157.here hx rfl (hb hby d78m3_129) rfl) ?_
        obtain ⟨T158, h158, X158, e158, W158, st158⟩ := putF X157 hx hZ hown (host := "") (Or.inl (hw _ (List.mem_of_getElem? (i := 27) rfl))) Via.refl e157 (V156.fld 0 rfl 5 rfl rfl) (V156.exa 0 rfl) (Or.inl (hw _ (List.mem_of_getElem? (i := 28) rfl))) (hw _ (List.mem_of_getElem? (i := 3) rfl)) (ty := .int) (by decide) rfl rfl (g := (mkF m 130 #[.val (.ref ao), .val (.int t)] [(.int (hg + (1 : Int32))), (.ref ao)])) rfl rfl (hb hby d78m3_130)
        have V158 : OView Z n0 h158 (oC ao [(.int per), (.ref au), (.ref ac), (.ref ab), (.ref ay), (.int (hg + (1 : Int32)))] :: oA au (si UU hg (0 : Int32)) :: oA ac (si CC hg (0 : Int32)) :: oA ab (si BB hg (0 : Int32)) :: oJ ay (sj YY (hg + (1 : Int32)) (((gi (si UU hg (0 : Int32)) hg).toInt64) + (gj YY ((hg + (1 : Int32)) - per)))) :: F) := V156.putF 0 rfl 5 rfl W158
        have N158 := Fr.snoc X158 N156 (V156.old 0 rfl)
        have Z158 : n0 ≤ h158.size := by rw [W158.size]; exact Z156
        refine OGets.step st158 ?_
        refine OGets.retV X158 hx hlk Bd.returns (hb hby d78m3_133) (Nat.le_of_ble_eq_true rfl) (Nat.le_of_ble_eq_true rfl) ?_
        have t1 : puU UU hg t = (si UU hg (0 : Int32)) := by unfold puU puX; rw [if_neg hc12_75, if_pos hc31_132]; first | done | rfl
        have t2 : puY UU YY per hg t = (sj YY (hg + (1 : Int32)) (((gi (si UU hg (0 : Int32)) hg).toInt64) + (gj YY ((hg + (1 : Int32)) - per)))) := by unfold puY; rw [t1, if_neg hc98_148]; first | done | rfl
        rw [e158]
        refine ⟨rfl, N158, ?_⟩
        rw [t1, t2]
        exact V158
    · refine OGets.step (fun _ => XS.ifNo X74.here hx rfl (hb hby d78m3_31) rfl ((if0 _ _).trans (feq hc31_132).1)) ?_
      show OGets p e below _ (T74.setTop (mkF m 34 #[.val (.ref ao), .val (.int t)] [(.int 0), (.int hg), (.ref au)]))
      refine OGets.step (fun _ => XS.iconst X74.here hx rfl (hb hby d78m3_34)) ?_
      refine OGets.step (fun _ => XS.goto X74.here hx rfl (pc0 := 35) (pc' := 39) rfl (hb hby d78m3_35) (by decide) (by decide)) ?_
      refine OGets.step (fun _ => XS.iadd X74.here hx rfl (hb hby d78m3_39) rfl) ?_
      show OGets p e below _ (T74.setTop (mkF m 40 #[.val (.ref ao), .val (.int t)] [(.int 1), (.int hg), (.ref au)]))
      obtain ⟨cl159, Ar159, S159⟩ := V0.arr 1 rfl
      obtain ⟨T159, h159, X159, e159, W159, st159⟩ := stI X74 hx hZ e74 Ar159 (j := hg) (own_sin (n := 5) S159 (by simp only [List.length_map, si_len, sj_len, List.length_replicate, hlU]) hh0) (g := (mkF m 40 #[.val (.ref ao), .val (.int t)] [(.int 1), (.int hg), (.ref au)])) rfl rfl (hb hby d78m3_40)
      have V159 : OView Z n0 h159 (oC ao [(.int per), (.ref au), (.ref ac), (.ref ab), (.ref ay), (.int hg)] :: oA au (si UU hg (1 : Int32)) :: oA ac CC :: oA ab BB :: oJ ay YY :: F) := V0.putI 1 rfl W159
      have N159 := Fr.snoc X159 N0 (V0.old 1 rfl)
      have Z159 : n0 ≤ h159.size := by rw [W159.size]; exact Z0
      refine OGets.step st159 ?_
      refine OGets.step (fun _ => XS.aloadN X159.here hx rfl (hb hby d78m3_41) rfl rfl) ?_
      obtain ⟨T160, X160, e160, st160⟩ := getF X159 hx hZ hown (host := "") (Or.inl (hw _ (List.mem_of_getElem? (i := 16) rfl))) Via.refl e159 (V159.fld 0 rfl 2 rfl rfl) (g := (mkF m 42 #[.val (.ref ao), .val (.int t)] [(.ref ao)])) rfl rfl (hb hby d78m3_42)
      refine OGets.step st160 ?_
      refine OGets.step (fun _ => XS.aloadN X160.here hx rfl (hb hby d78m3_45) rfl rfl) ?_
      obtain ⟨T161, X161, e161, st161⟩ := getF X160 hx hZ hown (host := "") (Or.inl (hw _ (List.mem_of_getElem? (i := 27) rfl))) Via.refl e160 (V159.fld 0 rfl 5 rfl rfl) (g := (mkF m 46 #[.val (.ref ao), .val (.int t)] [(.ref ao), (.ref ac)])) rfl rfl (hb hby d78m3_46)
      refine OGets.step st161 ?_
      refine OGets.step (fun _ => XS.iconst X161.here hx rfl (hb hby d78m3_49)) ?_
      obtain ⟨cl162, Ar162, S162⟩ := V159.arr 2 rfl
      obtain ⟨T162, h162, X162, e162, W162, st162⟩ := stI X161 hx hZ e161 Ar162 (j := hg) (own_sin (n := 5) S162 (by simp only [List.length_map, si_len, sj_len, List.length_replicate, hlC]) hh0) (g := (mkF m 50 #[.val (.ref ao), .val (.int t)] [(.int 0), (.int hg), (.ref ac)])) rfl rfl (hb hby d78m3_50)
      have V162 : OView Z n0 h162 (oC ao [(.int per), (.ref au), (.ref ac), (.ref ab), (.ref ay), (.int hg)] :: oA au (si UU hg (1 : Int32)) :: oA ac (si CC hg (0 : Int32)) :: oA ab BB :: oJ ay YY :: F) := V159.putI 2 rfl W162
      have N162 := Fr.snoc X162 N159 (V159.old 2 rfl)
      have Z162 : n0 ≤ h162.size := by rw [W162.size]; exact Z159
      refine OGets.step st162 ?_
      refine OGets.step (fun _ => XS.aloadN X162.here hx rfl (hb hby d78m3_51) rfl rfl) ?_
      obtain ⟨T163, X163, e163, st163⟩ := getF X162 hx hZ hown (host := "") (Or.inl (hw _ (List.mem_of_getElem? (i := 18) rfl))) Via.refl e162 (V162.fld 0 rfl 3 rfl rfl) (g := (mkF m 52 #[.val (.ref ao), .val (.int t)] [(.ref ao)])) rfl rfl (hb hby d78m3_52)
      refine OGets.step st163 ?_
      refine OGets.step (fun _ => XS.ifnullNo X163.here hx rfl (hb hby d78m3_55) rfl) ?_
      refine OGets.step (fun _ => XS.aloadN X163.here hx rfl (hb hby d78m3_58) rfl rfl) ?_
      obtain ⟨T164, X164, e164, st164⟩ := getF X163 hx hZ hown (host := "") (Or.inl (hw _ (List.mem_of_getElem? (i := 18) rfl))) Via.refl e163 (V162.fld 0 rfl 3 rfl rfl) (g := (mkF m 59 #[.val (.ref ao), .val (.int t)] [(.ref ao)])) rfl rfl (hb hby d78m3_59)
      refine OGets.step st164 ?_
      refine OGets.step (fun _ => XS.aloadN X164.here hx rfl (hb hby d78m3_62) rfl rfl) ?_
      obtain ⟨T165, X165, e165, st165⟩ := getF X164 hx hZ hown (host := "") (Or.inl (hw _ (List.mem_of_getElem? (i := 27) rfl))) Via.refl e164 (V162.fld 0 rfl 5 rfl rfl) (g := (mkF m 63 #[.val (.ref ao), .val (.int t)] [(.ref ao), (.ref ab)])) rfl rfl (hb hby d78m3_63)
      refine OGets.step st165 ?_
      refine OGets.step (fun _ => XS.iconst X165.here hx rfl (hb hby d78m3_66)) ?_
      obtain ⟨cl166, Ar166, S166⟩ := V162.arr 3 rfl
      obtain ⟨T166, h166, X166, e166, W166, st166⟩ := stI X165 hx hZ e165 Ar166 (j := hg) (own_sin (n := 5) S166 (by simp only [List.length_map, si_len, sj_len, List.length_replicate, hlB]) hh0) (g := (mkF m 67 #[.val (.ref ao), .val (.int t)] [(.int 0), (.int hg), (.ref ab)])) rfl rfl (hb hby d78m3_67)
      have V166 : OView Z n0 h166 (oC ao [(.int per), (.ref au), (.ref ac), (.ref ab), (.ref ay), (.int hg)] :: oA au (si UU hg (1 : Int32)) :: oA ac (si CC hg (0 : Int32)) :: oA ab (si BB hg (0 : Int32)) :: oJ ay YY :: F) := V162.putI 3 rfl W166
      have N166 := Fr.snoc X166 N162 (V162.old 3 rfl)
      have Z166 : n0 ≤ h166.size := by rw [W166.size]; exact Z162
      refine OGets.step st166 ?_
      refine OGets.step (fun _ => XS.aloadN X166.here hx rfl (hb hby d78m3_68) rfl rfl) ?_
      obtain ⟨T167, X167, e167, st167⟩ := getF X166 hx hZ hown (host := "") (Or.inl (hw _ (List.mem_of_getElem? (i := 20) rfl))) Via.refl e166 (V166.fld 0 rfl 4 rfl rfl) (g := (mkF m 69 #[.val (.ref ao), .val (.int t)] [(.ref ao)])) rfl rfl (hb hby d78m3_69)
      refine OGets.step st167 ?_
      refine OGets.step (fun _ => XS.aloadN X167.here hx rfl (hb hby d78m3_72) rfl rfl) ?_
      obtain ⟨T168, X168, e168, st168⟩ := getF X167 hx hZ hown (host := "") (Or.inl (hw _ (List.mem_of_getElem? (i := 27) rfl))) Via.refl e167 (V166.fld 0 rfl 5 rfl rfl) (g := (mkF m 73 #[.val (.ref ao), .val (.int t)] [(.ref ao), (.ref ay)])) rfl rfl (hb hby d78m3_73)
      refine OGets.step st168 ?_
      refine OGets.step (fun _ => XS.iconst X168.here hx rfl (hb hby d78m3_76)) ?_
      refine OGets.step (fun _ => XS.iadd X168.here hx rfl (hb hby d78m3_77) rfl) ?_
      refine OGets.step (fun _ => XS.aloadN X168.here hx rfl (hb hby d78m3_78) rfl rfl) ?_
      obtain ⟨T169, X169, e169, st169⟩ := getF X168 hx hZ hown (host := "") (Or.inl (hw _ (List.mem_of_getElem? (i := 14) rfl))) Via.refl e168 (V166.fld 0 rfl 1 rfl rfl) (g := (mkF m 79 #[.val (.ref ao), .val (.int t)] [(.ref ao), (.int (hg + (1 : Int32))), (.ref ay)])) rfl rfl (hb hby d78m3_79)
      refine OGets.step st169 ?_
      refine OGets.step (fun _ => XS.aloadN X169.here hx rfl (hb hby d78m3_82) rfl rfl) ?_
      obtain ⟨T170, X170, e170, st170⟩ := getF X169 hx hZ hown (host := "") (Or.inl (hw _ (List.mem_of_getElem? (i := 27) rfl))) Via.refl e169 (V166.fld 0 rfl 5 rfl rfl) (g := (mkF m 83 #[.val (.ref ao), .val (.int t)] [(.ref ao), (.ref au), (.int (hg + (1 : Int32))), (.ref ay)])) rfl rfl (hb hby d78m3_83)
      refine OGets.step st170 ?_
      obtain ⟨cl171, Ar171, S171⟩ := V166.arr 1 rfl
      refine OGets.step (fun _ => X170.iaload hx (j := hg) (v := (.int (gi (si UU hg (1 : Int32)) hg))) (by rw [e170]; exact Ar171.1) (State.isArrayOf_alike hZ.alike Ar171.2.1) Ar171.2.2 (own_sin (n := 5) S171 (by simp only [List.length_map, si_len, sj_len, List.length_replicate, hlU]) hh0) (own_sgetI (n := 5) S171 (by simp only [List.length_map, si_len, sj_len, List.length_replicate, hlU]) hh0) (g := (mkF m 86 #[.val (.ref ao), .val (.int t)] [(.int hg), (.ref au), (.int (hg + (1 : Int32))), (.ref ay)])) rfl rfl (hb hby d78m3_86) _) ?_
      refine OGets.step (fun _ => XS.i2l X170.here hx rfl (hb hby d78m3_87) rfl) ?_
      refine OGets.step (fun _ => XS.aloadN X170.here hx rfl (hb hby d78m3_88) rfl rfl) ?_
      obtain ⟨T172, X172, e172, st172⟩ := getF X170 hx hZ hown (host := "") (Or.inl (hw _ (List.mem_of_getElem? (i := 27) rfl))) Via.refl e170 (V166.fld 0 rfl 5 rfl rfl) (g := (mkF m 89 #[.val (.ref ao), .val (.int t)] [(.ref ao), (.long ((gi (si UU hg (1 : Int32)) hg).toInt64)), (.int (hg + (1 : Int32))), (.ref ay)])) rfl rfl (hb hby d78m3_89)
      refine OGets.step st172 ?_
      refine OGets.step (fun _ => XS.iconst X172.here hx rfl (hb hby d78m3_92)) ?_
      refine OGets.step (fun _ => XS.iadd X172.here hx rfl (hb hby d78m3_93) rfl) ?_
      refine OGets.step (fun _ => XS.aloadN X172.here hx rfl (hb hby d78m3_94) rfl rfl) ?_
      obtain ⟨T173, X173, e173, st173⟩ := getF X172 hx hZ hown (host := "") (Or.inl (hw _ (List.mem_of_getElem? (i := 11) rfl))) Via.refl e172 (V166.fld 0 rfl 0 rfl rfl) (g := (mkF m 95 #[.val (.ref ao), .val (.int t)] [(.ref ao), (.int (hg + (1 : Int32))), (.long ((gi (si UU hg (1 : Int32)) hg).toInt64)), (.int (hg + (1 : Int32))), (.ref ay)])) rfl rfl (hb hby d78m3_95)
      refine OGets.step st173 ?_
      by_cases hc98_174 : (hg + (1 : Int32)) < per
      · refine OGets.step (fun _ => XS.icmpYes X173.here hx rfl (pc0 := 98) (pc' := 120) rfl (hb hby d78m3_98) rfl (tlt hc98_174).1 (by decide) (by decide)) ?_
        show OGets p e below _ (T173.setTop (mkF m 120 #[.val (.ref ao), .val (.int t)] [(.long ((gi (si UU hg (1 : Int32)) hg).toInt64)), (.int (hg + (1 : Int32))), (.ref ay)]))
        refine OGets.step (fun _ => XS.lconst X173.here hx rfl (hb hby d78m3_120)) ?_
        refine OGets.step (fun _ => XS.ladd X173.here hx rfl (hb hby d78m3_121) rfl) ?_
        obtain ⟨cl175, Ar175, S175⟩ := V166.arr 4 rfl
        obtain ⟨T175, h175, X175, e175, W175, st175⟩ := stJ X173 hx hZ e173 Ar175 (j := (hg + (1 : Int32))) (own_sin (n := 6) S175 (by simp only [List.length_map, si_len, sj_len, List.length_replicate, hlY]) hh2) (g := (mkF m 122 #[.val (.ref ao), .val (.int t)] [(.long (((gi (si UU hg (1 : Int32)) hg).toInt64) + (0 : Int64))), (.int (hg + (1 : Int32))), (.ref ay)])) rfl rfl (hb hby d78m3_122)
        have V175 : OView Z n0 h175 (oC ao [(.int per), (.ref au), (.ref ac), (.ref ab), (.ref ay), (.int hg)] :: oA au (si UU hg (1 : Int32)) :: oA ac (si CC hg (0 : Int32)) :: oA ab (si BB hg (0 : Int32)) :: oJ ay (sj YY (hg + (1 : Int32)) (((gi (si UU hg (1 : Int32)) hg).toInt64) + (0 : Int64))) :: F) := V166.putJ 4 rfl W175
        have N175 := Fr.snoc X175 N166 (V166.old 4 rfl)
        have Z175 : n0 ≤ h175.size := by rw [W175.size]; exact Z166
        refine OGets.step st175 ?_
        refine OGets.step (fun _ => XS.aloadN X175.here hx rfl (hb hby d78m3_123) rfl rfl) ?_
        refine OGets.step (fun _ => XS.dup X175.here hx rfl (hb hby d78m3_124) rfl rfl) ?_
        obtain ⟨T176, X176, e176, st176⟩ := getF X175 hx hZ hown (host := "") (Or.inl (hw _ (List.mem_of_getElem? (i := 27) rfl))) Via.refl e175 (V175.fld 0 rfl 5 rfl rfl) (g := (mkF m 125 #[.val (.ref ao), .val (.int t)] [(.ref ao), (.ref ao)])) rfl rfl (hb hby d78m3_125)
        refine OGets.step st176 ?_
        refine OGets.step (fun _ => XS.iconst X176.here hx rfl (hb hby d78m3_128)) ?_
        refine OGets.step (fun _ => XS.iadd X176.here hx rfl (hb hby d78m3_129) rfl) ?_
        obtain ⟨T177, h177, X177, e177, W177, st177⟩ := putF X176 hx hZ hown (host := "") (Or.inl (hw _ (List.mem_of_getElem? (i := 27) rfl))) Via.refl e176 (V175.fld 0 rfl 5 rfl rfl) (V175.exa 0 rfl) (Or.inl (hw _ (List.mem_of_getElem? (i := 28) rfl))) (hw _ (List.mem_of_getElem? (i := 3) rfl)) (ty := .int) (by decide) rfl rfl (g := (mkF m 130 #[.val (.ref ao), .val (.int t)] [(.int (hg + (1 : Int32))), (.ref ao)])) rfl rfl (hb hby d78m3_130)
        have V177 : OView Z n0 h177 (oC ao [(.int per), (.ref au), (.ref ac), (.ref ab), (.ref ay), (.int (hg + (1 : Int32)))] :: oA au (si UU hg (1 : Int32)) :: oA ac (si CC hg (0 : Int32)) :: oA ab (si BB hg (0 : Int32)) :: oJ ay (sj YY (hg + (1 : Int32)) (((gi (si UU hg (1 : Int32)) hg).toInt64) + (0 : Int64))) :: F) := V175.putF 0 rfl 5 rfl W177
        have N177 := Fr.snoc X177 N175 (V175.old 0 rfl)
        have Z177 : n0 ≤ h177.size := by rw [W177.size]; exact Z175
        refine OGets.step st177 ?_
        refine OGets.retV X177 hx hlk Bd.returns (hb hby d78m3_133) (Nat.le_of_ble_eq_true rfl) (Nat.le_of_ble_eq_true rfl) ?_
        have t1 : puU UU hg t = (si UU hg (1 : Int32)) := by unfold puU puX; rw [if_neg hc12_75, if_neg hc31_132]; first | done | rfl
        have t2 : puY UU YY per hg t = (sj YY (hg + (1 : Int32)) (((gi (si UU hg (1 : Int32)) hg).toInt64) + (0 : Int64))) := by unfold puY; rw [t1, if_pos hc98_174]; first | done | rfl
        rw [e177]
        refine ⟨rfl, N177, ?_⟩
        rw [t1, t2]
        exact V177
      · refine OGets.step (fun _ => XS.icmpNo X173.here hx rfl (hb hby d78m3_98) rfl (flt hc98_174).1) ?_
        show OGets p e below _ (T173.setTop (mkF m 101 #[.val (.ref ao), .val (.int t)] [(.long ((gi (si UU hg (1 : Int32)) hg).toInt64)), (.int (hg + (1 : Int32))), (.ref ay)]))
        refine OGets.step (fun _ => XS.aloadN X173.here hx rfl (hb hby d78m3_101) rfl rfl) ?_
        obtain ⟨T178, X178, e178, st178⟩ := getF X173 hx hZ hown (host := "") (Or.inl (hw _ (List.mem_of_getElem? (i := 20) rfl))) Via.refl e173 (V166.fld 0 rfl 4 rfl rfl) (g := (mkF m 102 #[.val (.ref ao), .val (.int t)] [(.ref ao), (.long ((gi (si UU hg (1 : Int32)) hg).toInt64)), (.int (hg + (1 : Int32))), (.ref ay)])) rfl rfl (hb hby d78m3_102)
        refine OGets.step st178 ?_
        refine OGets.step (fun _ => XS.aloadN X178.here hx rfl (hb hby d78m3_105) rfl rfl) ?_
        obtain ⟨T179, X179, e179, st179⟩ := getF X178 hx hZ hown (host := "") (Or.inl (hw _ (List.mem_of_getElem? (i := 27) rfl))) Via.refl e178 (V166.fld 0 rfl 5 rfl rfl) (g := (mkF m 106 #[.val (.ref ao), .val (.int t)] [(.ref ao), (.ref ay), (.long ((gi (si UU hg (1 : Int32)) hg).toInt64)), (.int (hg + (1 : Int32))), (.ref ay)])) rfl rfl (hb hby d78m3_106)
        refine OGets.step st179 ?_
        refine OGets.step (fun _ => XS.iconst X179.here hx rfl (hb hby d78m3_109)) ?_
        refine OGets.step (fun _ => XS.iadd X179.here hx rfl (hb hby d78m3_110) rfl) ?_
        refine OGets.step (fun _ => XS.aloadN X179.here hx rfl (hb hby d78m3_111) rfl rfl) ?_
        obtain ⟨T180, X180, e180, st180⟩ := getF X179 hx hZ hown (host := "") (Or.inl (hw _ (List.mem_of_getElem? (i := 11) rfl))) Via.refl e179 (V166.fld 0 rfl 0 rfl rfl) (g := (mkF m 112 #[.val (.ref ao), .val (.int t)] [(.ref ao), (.int (hg + (1 : Int32))), (.ref ay), (.long ((gi (si UU hg (1 : Int32)) hg).toInt64)), (.int (hg + (1 : Int32))), (.ref ay)])) rfl rfl (hb hby d78m3_112)
        refine OGets.step st180 ?_
        refine OGets.step (fun _ => XS.isub X180.here hx rfl (hb hby d78m3_115) rfl) ?_
        obtain ⟨cl181, Ar181, S181⟩ := V166.arr 4 rfl
        refine OGets.step (fun _ => X180.laload hx (j := ((hg + (1 : Int32)) - per)) (v := (.long (gj YY ((hg + (1 : Int32)) - per)))) (by rw [e180]; exact Ar181.1) (State.isArrayOf_alike hZ.alike Ar181.2.1) Ar181.2.2 (own_sin (n := 6) S181 (by simp only [List.length_map, si_len, sj_len, List.length_replicate, hlY]) (hh3 hc98_174)) (own_sgetJ (n := 6) S181 (by simp only [List.length_map, si_len, sj_len, List.length_replicate, hlY]) (hh3 hc98_174)) (g := (mkF m 116 #[.val (.ref ao), .val (.int t)] [(.int ((hg + (1 : Int32)) - per)), (.ref ay), (.long ((gi (si UU hg (1 : Int32)) hg).toInt64)), (.int (hg + (1 : Int32))), (.ref ay)])) rfl rfl (hb hby d78m3_116) _) ?_
        refine OGets.step (fun _ => XS.goto X180.here hx rfl (pc0 := 117) (pc' := 121) rfl (hb hby d78m3_117) (by decide) (by decide)) ?_
        refine OGets.step (fun _ => XS.ladd X180.here hx rfl (hb hby d78m3_121) rfl) ?_
        obtain ⟨cl182, Ar182, S182⟩ := V166.arr 4 rfl
        obtain ⟨T182, h182, X182, e182, W182, st182⟩ := stJ X180 hx hZ e180 Ar182 (j := (hg + (1 : Int32))) (own_sin (n := 6) S182 (by simp only [List.length_map, si_len, sj_len, List.length_replicate, hlY]) hh2) (g := (mkF m 122 #[.val (.ref ao), .val (.int t)] [(.long (((gi (si UU hg (1 : Int32)) hg).toInt64) + (gj YY ((hg + (1 : Int32)) - per)))), (.int (hg + (1 : Int32))), (.ref ay)])) rfl rfl (hb hby d78m3_122)
        have V182 : OView Z n0 h182 (oC ao [(.int per), (.ref au), (.ref ac), (.ref ab), (.ref ay), (.int hg)] :: oA au (si UU hg (1 : Int32)) :: oA ac (si CC hg (0 : Int32)) :: oA ab (si BB hg (0 : Int32)) :: oJ ay (sj YY (hg + (1 : Int32)) (((gi (si UU hg (1 : Int32)) hg).toInt64) + (gj YY ((hg + (1 : Int32)) - per)))) :: F) := V166.putJ 4 rfl W182
        have N182 := Fr.snoc X182 N166 (V166.old 4 rfl)
        have Z182 : n0 ≤ h182.size := by rw [W182.size]; exact Z166
        refine OGets.step st182 ?_
        refine OGets.step (fun _ => XS.aloadN X182.here hx rfl (hb hby d78m3_123) rfl rfl) ?_
        refine OGets.step (fun _ => XS.dup X182.here hx rfl (hb hby d78m3_124) rfl rfl) ?_
        obtain ⟨T183, X183, e183, st183⟩ := getF X182 hx hZ hown (host := "") (Or.inl (hw _ (List.mem_of_getElem? (i := 27) rfl))) Via.refl e182 (V182.fld 0 rfl 5 rfl rfl) (g := (mkF m 125 #[.val (.ref ao), .val (.int t)] [(.ref ao), (.ref ao)])) rfl rfl (hb hby d78m3_125)
        refine OGets.step st183 ?_
        refine OGets.step (fun _ => XS.iconst X183.here hx rfl (hb hby d78m3_128)) ?_
        refine OGets.step (fun _ => XS.iadd X183.here hx rfl (hb hby d78m3_129) rfl) ?_
        obtain ⟨T184, h184, X184, e184, W184, st184⟩ := putF X183 hx hZ hown (host := "") (Or.inl (hw _ (List.mem_of_getElem? (i := 27) rfl))) Via.refl e183 (V182.fld 0 rfl 5 rfl rfl) (V182.exa 0 rfl) (Or.inl (hw _ (List.mem_of_getElem? (i := 28) rfl))) (hw _ (List.mem_of_getElem? (i := 3) rfl)) (ty := .int) (by decide) rfl rfl (g := (mkF m 130 #[.val (.ref ao), .val (.int t)] [(.int (hg + (1 : Int32))), (.ref ao)])) rfl rfl (hb hby d78m3_130)
        have V184 : OView Z n0 h184 (oC ao [(.int per), (.ref au), (.ref ac), (.ref ab), (.ref ay), (.int (hg + (1 : Int32)))] :: oA au (si UU hg (1 : Int32)) :: oA ac (si CC hg (0 : Int32)) :: oA ab (si BB hg (0 : Int32)) :: oJ ay (sj YY (hg + (1 : Int32)) (((gi (si UU hg (1 : Int32)) hg).toInt64) + (gj YY ((hg + (1 : Int32)) - per)))) :: F) := V182.putF 0 rfl 5 rfl W184
        have N184 := Fr.snoc X184 N182 (V182.old 0 rfl)
        have Z184 : n0 ≤ h184.size := by rw [W184.size]; exact Z182
        refine OGets.step st184 ?_
        refine OGets.retV X184 hx hlk Bd.returns (hb hby d78m3_133) (Nat.le_of_ble_eq_true rfl) (Nat.le_of_ble_eq_true rfl) ?_
        have t1 : puU UU hg t = (si UU hg (1 : Int32)) := by unfold puU puX; rw [if_neg hc12_75, if_neg hc31_132]; first | done | rfl
        have t2 : puY UU YY per hg t = (sj YY (hg + (1 : Int32)) (((gi (si UU hg (1 : Int32)) hg).toInt64) + (gj YY ((hg + (1 : Int32)) - per)))) := by unfold puY; rw [t1, if_neg hc98_174]; first | done | rfl
        rw [e184]
        refine ⟨rfl, N184, ?_⟩
        rw [t1, t2]
        exact V184
def poC (C : List Int32) (t : Int32) : List Int32 := if (0 : Int32) < t then si C (t - 1) (gi C (t - 1) + gi C t) else C
def poV (C : List Int32) (t : Int32) : Int32 := if (0 : Int32) < gi (poC C t) t then 1 else 0
def poA (C B : List Int32) (t : Int32) : List Int32 := si C t (gi C t + gi B t)
def poB (B : List Int32) (per t : Int32) : List Int32 := if t < per then B else si B (t - per) (gi B (t - per) + gi B t)
theorem poC_len (C : List Int32) (t : Int32) : (poC C t).length = C.length := by unfold poC; split <;> simp [si_len]
theorem poA_len (C B : List Int32) (t : Int32) : (poA C B t).length = C.length := si_len _ _ _
theorem poB_len (B : List Int32) (per t : Int32) : (poB B per t).length = B.length := by unfold poB; split <;> simp [si_len]
theorem d78m4_0 : decode prog_78_method_4_code 0 = .ok (.aload_n 0, 1) := by decide +kernel
theorem d78m4_1 : decode prog_78_method_4_code 1 = .ok (.dup, 1) := by decide +kernel
theorem d78m4_2 : decode prog_78_method_4_code 2 = .ok (.getfield 27, 3) := by decide +kernel
theorem d78m4_5 : decode prog_78_method_4_code 5 = .ok (.iconst 1, 1) := by decide +kernel
theorem d78m4_6 : decode prog_78_method_4_code 6 = .ok (.isub, 1) := by decide +kernel
theorem d78m4_7 : decode prog_78_method_4_code 7 = .ok (.dup_x1, 1) := by decide +kernel
theorem d78m4_8 : decode prog_78_method_4_code 8 = .ok (.putfield 27, 3) := by decide +kernel
theorem d78m4_11 : decode prog_78_method_4_code 11 = .ok (.istore_n 1, 1) := by decide +kernel
theorem d78m4_12 : decode prog_78_method_4_code 12 = .ok (.aload_n 0, 1) := by decide +kernel
theorem d78m4_13 : decode prog_78_method_4_code 13 = .ok (.getfield 20, 3) := by decide +kernel
theorem d78m4_16 : decode prog_78_method_4_code 16 = .ok (.ifnull 46, 3) := by decide +kernel
theorem d78m4_62 : decode prog_78_method_4_code 62 = .ok (.iload_n 1, 1) := by decide +kernel
theorem d78m4_63 : decode prog_78_method_4_code 63 = .ok (.ifCond .le 20, 3) := by decide +kernel
theorem d78m4_66 : decode prog_78_method_4_code 66 = .ok (.aload_n 0, 1) := by decide +kernel
theorem d78m4_67 : decode prog_78_method_4_code 67 = .ok (.getfield 17, 3) := by decide +kernel
theorem d78m4_70 : decode prog_78_method_4_code 70 = .ok (.iload_n 1, 1) := by decide +kernel
theorem d78m4_71 : decode prog_78_method_4_code 71 = .ok (.iconst 1, 1) := by decide +kernel
theorem d78m4_72 : decode prog_78_method_4_code 72 = .ok (.isub, 1) := by decide +kernel
theorem d78m4_73 : decode prog_78_method_4_code 73 = .ok (.dup2, 1) := by decide +kernel
theorem d78m4_74 : decode prog_78_method_4_code 74 = .ok (.iaload, 1) := by decide +kernel
theorem d78m4_75 : decode prog_78_method_4_code 75 = .ok (.aload_n 0, 1) := by decide +kernel
theorem d78m4_76 : decode prog_78_method_4_code 76 = .ok (.getfield 17, 3) := by decide +kernel
theorem d78m4_79 : decode prog_78_method_4_code 79 = .ok (.iload_n 1, 1) := by decide +kernel
theorem d78m4_80 : decode prog_78_method_4_code 80 = .ok (.iaload, 1) := by decide +kernel
theorem d78m4_81 : decode prog_78_method_4_code 81 = .ok (.iadd, 1) := by decide +kernel
theorem d78m4_82 : decode prog_78_method_4_code 82 = .ok (.iastore, 1) := by decide +kernel
theorem d78m4_83 : decode prog_78_method_4_code 83 = .ok (.aload_n 0, 1) := by decide +kernel
theorem d78m4_84 : decode prog_78_method_4_code 84 = .ok (.getfield 17, 3) := by decide +kernel
theorem d78m4_87 : decode prog_78_method_4_code 87 = .ok (.iload_n 1, 1) := by decide +kernel
theorem d78m4_88 : decode prog_78_method_4_code 88 = .ok (.iaload, 1) := by decide +kernel
theorem d78m4_89 : decode prog_78_method_4_code 89 = .ok (.ifCond .le 7, 3) := by decide +kernel
theorem d78m4_92 : decode prog_78_method_4_code 92 = .ok (.iconst 1, 1) := by decide +kernel
theorem d78m4_93 : decode prog_78_method_4_code 93 = .ok (.goto 4, 3) := by decide +kernel
theorem d78m4_97 : decode prog_78_method_4_code 97 = .ok (.ireturn, 1) := by decide +kernel
theorem d78m4_96 : decode prog_78_method_4_code 96 = .ok (.iconst 0, 1) := by decide +kernel
theorem ef_popN (m : MethodId) (x0 : Addr) : entryFrame m #[(.ref x0)] 2 = mkF m 0 #[.val (.ref x0), .unset] [] := by first | (simp [entryFrame, mkF, argsToLocals, Value.category]; done) | rfl
def Q_popN (Z : State) (ao : Addr) (au : Addr) (ac : Addr) (per : Int32) (hg : Int32) (CC : List Int32) (h0 : Heap) (n0 : Nat) (F : List (Addr × OObj)) (v : Option Value) (h : Heap) (L : List Loc) : Prop := v = some (.int (poV CC (hg - (1 : Int32)))) ∧ Fr n0 L ∧ OView Z n0 h (oC ao [(.int per), (.ref au), (.ref ac), .null, .null, (.int (hg - (1 : Int32)))] :: oA ac (poC CC (hg - (1 : Int32))) :: F)
set_option maxRecDepth 65536 in
set_option maxHeartbeats 40000000 in
theorem rm_popN (l : Launch) (Z : State) (a0 : Array Value) (hw : ∀ d ∈ tables_1, d.before a0 Z = true) (ws : List Jvm.Cond) (ao : Addr) (au : Addr) (ac : Addr) (per : Int32) (hg : Int32) (CC : List Int32) (h0 : Heap) (n0 : Nat) (F : List (Addr × OObj)) (Z0 : n0 ≤ h0.size) (hlC : CC.length = 5) (hh0 : inb 5 (hg - (1 : Int32))) (hh1 : (0 : Int32) < (hg - (1 : Int32)) → inb 5 ((hg - (1 : Int32)) - (1 : Int32))) (V0 : OView Z n0 h0 (oC ao [(.int per), (.ref au), (.ref ac), .null, .null, (.int hg)] :: oA ac CC :: F)) :
    MetFree l (⟨"com/example/pelt/pelt/StackCounts", "pop", "()Z"⟩ : MethodName) (head1 (Jvm.Cond.code (⟨"com/example/pelt/pelt/StackCounts", "pop", "()Z"⟩ : MethodName) prog_78_method_4_code 2 (some .boolean) :: ws) ({ frames := 0, cells := 0, slots := 0, locals := 0 } : Room)) (fun a_ U => a_ = #[(.ref ao)] ∧ Z.Warmed39 U.vm ∧ U.heap = h0) (fun _ _ _ _ _ => True) (fun _ U o U' => ∃ v L, o = .returned v ∧ Q_popN Z ao au ac per hg CC h0 n0 F v U'.heap L ∧ FrameEnd U o U' L ({ frames := 0, cells := 0, slots := 0, locals := 0 } : Room).cells ({ frames := 0, cells := 0, slots := 0, locals := 0 } : Room).slots) := by
  refine MetFree.of_bodySF (plainFor_of_name pn_3) hisR ?_
  intro p e s m args below meth c s₁ Bd hml0 hP hK
  obtain ⟨rfl, hZ, hh⟩ := hP
  have hx := Bd.exec
  have hby := Bd.bytes
  have hlk : meth.locks = false := Bd.notSynchronized
  have hml : c.maxLocals = 2 := hml0
  have hown : s.vm.findClass "com/example/pelt/pelt/StackCounts" = some m.cls := findClass_of_methodNamed Bd.named
  have hnm := (name_of_methodNamed Bd.named Bd.method).1
  have X0 : Stand p l e ({ frames := 0, cells := 0, slots := 0, locals := 0 } : Room) s m #[(.ref ao)] below meth c s₁ [] 0 0 := Stand.of_body Bd
  have e0 : s₁.heap = h0 := by rw [← hh, Bd.state]; rfl
  have N0 := Fr.nil n0
  show OGets p e below (OLeaves s (Q_popN Z ao au ac per hg CC h0 n0 F ) ({ frames := 0, cells := 0, slots := 0, locals := 0 } : Room).cells ({ frames := 0, cells := 0, slots := 0, locals := 0 } : Room).slots) _
  refine OGets.enter (ef_popN m ao) ?_
  show OGets p e below _ (s₁.setTop (mkF m 0 #[.val (.ref ao), .unset] []))
  refine OGets.step (fun _ => XS.aloadN X0.here hx rfl (hb hby d78m4_0) rfl rfl) ?_
  refine OGets.step (fun _ => XS.dup X0.here hx rfl (hb hby d78m4_1) rfl rfl) ?_
  obtain ⟨T185, X185, e185, st185⟩ := getF X0 hx hZ hown (host := "") (Or.inl (hw _ (List.mem_of_getElem? (i := 27) rfl))) Via.refl e0 (V0.fld 0 rfl 5 rfl rfl) (g := (mkF m 2 #[.val (.ref ao), .unset] [(.ref ao), (.ref ao)])) rfl rfl (hb hby d78m4_2)
  refine OGets.step st185 ?_
  refine OGets.step (fun _ => XS.iconst X185.here hx rfl (hb hby d78m4_5)) ?_
  refine OGets.step (fun _ => XS.isub X185.here hx rfl (hb hby d78m4_6) rfl) ?_
  refine OGets.step (fun _ => XS.dupX1 X185.here hx rfl (hb hby d78m4_7) rfl rfl rfl) ?_
  obtain ⟨T186, h186, X186, e186, W186, st186⟩ := putF X185 hx hZ hown (host := "") (Or.inl (hw _ (List.mem_of_getElem? (i := 27) rfl))) Via.refl e185 (V0.fld 0 rfl 5 rfl rfl) (V0.exa 0 rfl) (Or.inl (hw _ (List.mem_of_getElem? (i := 28) rfl))) (hw _ (List.mem_of_getElem? (i := 3) rfl)) (ty := .int) (by decide) rfl rfl (g := (mkF m 8 #[.val (.ref ao), .unset] [(.int (hg - (1 : Int32))), (.ref ao), (.int (hg - (1 : Int32)))])) rfl rfl (hb hby d78m4_8)
  have V186 : OView Z n0 h186 (oC ao [(.int per), (.ref au), (.ref ac), .null, .null, (.int (hg - (1 : Int32)))] :: oA ac CC :: F) := V0.putF 0 rfl 5 rfl W186
  have N186 := Fr.snoc X186 N0 (V0.old 0 rfl)
  have Z186 : n0 ≤ h186.size := by rw [W186.size]; exact Z0
  refine OGets.step st186 ?_
  refine OGets.step (fun _ => XS.istoreN X186.here hx rfl (hb hby d78m4_11) rfl (l' := #[.val (.ref ao), .val (.int (hg - (1 : Int32)))]) rfl) ?_
  refine OGets.step (fun _ => XS.aloadN X186.here hx rfl (hb hby d78m4_12) rfl rfl) ?_
  obtain ⟨T187, X187, e187, st187⟩ := getF X186 hx hZ hown (host := "") (Or.inl (hw _ (List.mem_of_getElem? (i := 18) rfl))) Via.refl e186 (V186.fld 0 rfl 3 rfl rfl) (g := (mkF m 13 #[.val (.ref ao), .val (.int (hg - (1 : Int32)))] [(.ref ao)])) rfl rfl (hb hby d78m4_13)
  refine OGets.step st187 ?_
  refine OGets.step (fun _ => XS.ifnullYes X187.here hx rfl (pc0 := 16) (pc' := 62) rfl (hb hby d78m4_16) rfl (by decide) (by decide)) ?_
  refine OGets.step (fun _ => XS.iloadN X187.here hx rfl (hb hby d78m4_62) rfl) ?_
  by_cases hc63_188 : (0 : Int32) < (hg - (1 : Int32))
  · refine OGets.step (fun _ => XS.ifNo X187.here hx rfl (hb hby d78m4_63) rfl ((if0 _ _).trans (tlt hc63_188).2.2.2)) ?_
    show OGets p e below _ (T187.setTop (mkF m 66 #[.val (.ref ao), .val (.int (hg - (1 : Int32)))] []))
    refine OGets.step (fun _ => XS.aloadN X187.here hx rfl (hb hby d78m4_66) rfl rfl) ?_
    obtain ⟨T189, X189, e189, st189⟩ := getF X187 hx hZ hown (host := "") (Or.inl (hw _ (List.mem_of_getElem? (i := 16) rfl))) Via.refl e187 (V186.fld 0 rfl 2 rfl rfl) (g := (mkF m 67 #[.val (.ref ao), .val (.int (hg - (1 : Int32)))] [(.ref ao)])) rfl rfl (hb hby d78m4_67)
    refine OGets.step st189 ?_
    refine OGets.step (fun _ => XS.iloadN X189.here hx rfl (hb hby d78m4_70) rfl) ?_
    refine OGets.step (fun _ => XS.iconst X189.here hx rfl (hb hby d78m4_71)) ?_
    refine OGets.step (fun _ => XS.isub X189.here hx rfl (hb hby d78m4_72) rfl) ?_
    refine OGets.step (U' := T189.setTop (mkF m 74 #[.val (.ref ao), .val (.int (hg - (1 : Int32)))] [(.int ((hg - (1 : Int32)) - (1 : Int32))), (.ref ac), (.int ((hg - (1 : Int32)) - (1 : Int32))), (.ref ac)])) (fun t kt => ?_) ?_
    · jvm_step X189.here [X189.here.top, hx, (hb hby d78m4_73), Value.category]
      exact kt
    obtain ⟨cl190, Ar190, S190⟩ := V186.arr 1 rfl
    refine OGets.step (fun _ => X189.iaload hx (j := ((hg - (1 : Int32)) - (1 : Int32))) (v := (.int (gi CC ((hg - (1 : Int32)) - (1 : Int32))))) (by rw [e189]; exact Ar190.1) (State.isArrayOf_alike hZ.alike Ar190.2.1) Ar190.2.2 (own_sin (n := 5) S190 (by simp only [List.length_map, si_len, sj_len, List.length_replicate, hlC]) (hh1 hc63_188)) (own_sgetI (n := 5) S190 (by simp only [List.length_map, si_len, sj_len, List.length_replicate, hlC]) (hh1 hc63_188)) (g := (mkF m 74 #[.val (.ref ao), .val (.int (hg - (1 : Int32)))] [(.int ((hg - (1 : Int32)) - (1 : Int32))), (.ref ac), (.int ((hg - (1 : Int32)) - (1 : Int32))), (.ref ac)])) rfl rfl (hb hby d78m4_74) _) ?_
    refine OGets.step (fun _ => XS.aloadN X189.here hx rfl (hb hby d78m4_75) rfl rfl) ?_
    obtain ⟨T191, X191, e191, st191⟩ := getF X189 hx hZ hown (host := "") (Or.inl (hw _ (List.mem_of_getElem? (i := 16) rfl))) Via.refl e189 (V186.fld 0 rfl 2 rfl rfl) (g := (mkF m 76 #[.val (.ref ao), .val (.int (hg - (1 : Int32)))] [(.ref ao), (.int (gi CC ((hg - (1 : Int32)) - (1 : Int32)))), (.int ((hg - (1 : Int32)) - (1 : Int32))), (.ref ac)])) rfl rfl (hb hby d78m4_76)
    refine OGets.step st191 ?_
    refine OGets.step (fun _ => XS.iloadN X191.here hx rfl (hb hby d78m4_79) rfl) ?_
    obtain ⟨cl192, Ar192, S192⟩ := V186.arr 1 rfl
    refine OGets.step (fun _ => X191.iaload hx (j := (hg - (1 : Int32))) (v := (.int (gi CC (hg - (1 : Int32))))) (by rw [e191]; exact Ar192.1) (State.isArrayOf_alike hZ.alike Ar192.2.1) Ar192.2.2 (own_sin (n := 5) S192 (by simp only [List.length_map, si_len, sj_len, List.length_replicate, hlC]) hh0) (own_sgetI (n := 5) S192 (by simp only [List.length_map, si_len, sj_len, List.length_replicate, hlC]) hh0) (g := (mkF m 80 #[.val (.ref ao), .val (.int (hg - (1 : Int32)))] [(.int (hg - (1 : Int32))), (.ref ac), (.int (gi CC ((hg - (1 : Int32)) - (1 : Int32)))), (.int ((hg - (1 : Int32)) - (1 : Int32))), (.ref ac)])) rfl rfl (hb hby d78m4_80) _) ?_
    refine OGets.step (fun _ => XS.iadd X191.here hx rfl (hb hby d78m4_81) rfl) ?_
    obtain ⟨cl193, Ar193, S193⟩ := V186.arr 1 rfl
    obtain ⟨T193, h193, X193, e193, W193, st193⟩ := stI X191 hx hZ e191 Ar193 (j := ((hg - (1 : Int32)) - (1 : Int32))) (own_sin (n := 5) S193 (by simp only [List.length_map, si_len, sj_len, List.length_replicate, hlC]) (hh1 hc63_188)) (g := (mkF m 82 #[.val (.ref ao), .val (.int (hg - (1 : Int32)))] [(.int ((gi CC ((hg - (1 : Int32)) - (1 : Int32))) + (gi CC (hg - (1 : Int32))))), (.int ((hg - (1 : Int32)) - (1 : Int32))), (.ref ac)])) rfl rfl (hb hby d78m4_82)
    have V193 : OView Z n0 h193 (oC ao [(.int per), (.ref au), (.ref ac), .null, .null, (.int (hg - (1 : Int32)))] :: oA ac (si CC ((hg - (1 : Int32)) - (1 : Int32)) ((gi CC ((hg - (1 : Int32)) - (1 : Int32))) + (gi CC (hg - (1 : Int32))))) :: F) := V186.putI 1 rfl W193
    have N193 := Fr.snoc X193 N186 (V186.old 1 rfl)
    have Z193 : n0 ≤ h193.size := by rw [W193.size]; exact Z186
    refine OGets.step st193 ?_
    refine OGets.step (fun _ => XS.aloadN X193.here hx rfl (hb hby d78m4_83) rfl rfl) ?_
    obtain ⟨T194, X194, e194, st194⟩ := getF X193 hx hZ hown (host := "") (Or.inl (hw _ (List.mem_of_getElem? (i := 16) rfl))) Via.refl e193 (V193.fld 0 rfl 2 rfl rfl) (g := (mkF m 84 #[.val (.ref ao), .val (.int (hg - (1 : Int32)))] [(.ref ao)])) rfl rfl (hb hby d78m4_84)
    refine OGets.step st194 ?_
    refine OGets.step (fun _ => XS.iloadN X194.here hx rfl (hb hby d78m4_87) rfl) ?_
    obtain ⟨cl195, Ar195, S195⟩ := V193.arr 1 rfl
    refine OGets.step (fun _ => X194.iaload hx (j := (hg - (1 : Int32))) (v := (.int (gi (si CC ((hg - (1 : Int32)) - (1 : Int32)) ((gi CC ((hg - (1 : Int32)) - (1 : Int32))) + (gi CC (hg - (1 : Int32))))) (hg - (1 : Int32))))) (by rw [e194]; exact Ar195.1) (State.isArrayOf_alike hZ.alike Ar195.2.1) Ar195.2.2 (own_sin (n := 5) S195 (by simp only [List.length_map, si_len, sj_len, List.length_replicate, hlC]) hh0) (own_sgetI (n := 5) S195 (by simp only [List.length_map, si_len, sj_len, List.length_replicate, hlC]) hh0) (g := (mkF m 88 #[.val (.ref ao), .val (.int (hg - (1 : Int32)))] [(.int (hg - (1 : Int32))), (.ref ac)])) rfl rfl (hb hby d78m4_88) _) ?_
    by_cases hc89_196 : (0 : Int32) < (gi (si CC ((hg - (1 : Int32)) - (1 : Int32)) ((gi CC ((hg - (1 : Int32)) - (1 : Int32))) + (gi CC (hg - (1 : Int32))))) (hg - (1 : Int32)))
    · refine OGets.step (fun _ => XS.ifNo X194.here hx rfl (hb hby d78m4_89) rfl ((if0 _ _).trans (tlt hc89_196).2.2.2)) ?_
      show OGets p e below _ (T194.setTop (mkF m 92 #[.val (.ref ao), .val (.int (hg - (1 : Int32)))] []))
      refine OGets.step (fun _ => XS.iconst X194.here hx rfl (hb hby d78m4_92)) ?_
      refine OGets.step (fun _ => XS.goto X194.here hx rfl (pc0 := 93) (pc' := 97) rfl (hb hby d78m4_93) (by decide) (by decide)) ?_
      refine OGets.retN X194 hx hlk (t := .boolean) Bd.returns (by simp) (hb hby d78m4_97) (Nat.le_of_ble_eq_true rfl) (Nat.le_of_ble_eq_true rfl) ?_
      have t1 : poC CC (hg - (1 : Int32)) = (si CC ((hg - (1 : Int32)) - (1 : Int32)) ((gi CC ((hg - (1 : Int32)) - (1 : Int32))) + (gi CC (hg - (1 : Int32))))) := if_pos hc63_188
      have t3 : poV CC (hg - (1 : Int32)) = (1 : Int32) := by unfold poV; rw [t1]; exact if_pos hc89_196
      rw [e194]
      refine ⟨congrArg (fun z => some (Value.int z)) t3.symm, N193, ?_⟩
      rw [t1]
      exact V193
    · refine OGets.step (fun _ => XS.ifYes X194.here hx rfl (pc0 := 89) (pc' := 96) rfl (hb hby d78m4_89) rfl ((if0 _ _).trans (flt hc89_196).2.2.2) (by decide) (by decide)) ?_
      show OGets p e below _ (T194.setTop (mkF m 96 #[.val (.ref ao), .val (.int (hg - (1 : Int32)))] []))
      refine OGets.step (fun _ => XS.iconst X194.here hx rfl (hb hby d78m4_96)) ?_
      refine OGets.retN X194 hx hlk (t := .boolean) Bd.returns (by simp) (hb hby d78m4_97) (Nat.le_of_ble_eq_true rfl) (Nat.le_of_ble_eq_true rfl) ?_
      have t1 : poC CC (hg - (1 : Int32)) = (si CC ((hg - (1 : Int32)) - (1 : Int32)) ((gi CC ((hg - (1 : Int32)) - (1 : Int32))) + (gi CC (hg - (1 : Int32))))) := if_pos hc63_188
      have t3 : poV CC (hg - (1 : Int32)) = (0 : Int32) := by unfold poV; rw [t1]; exact if_neg hc89_196
      rw [e194]
      refine ⟨congrArg (fun z => some (Value.int z)) t3.symm, N193, ?_⟩
      rw [t1]
      exact V193
  · refine OGets.step (fun _ => XS.ifYes X187.here hx rfl (pc0 := 63) (pc' := 83) rfl (hb hby d78m4_63) rfl ((if0 _ _).trans (flt hc63_188).2.2.2) (by decide) (by decide)) ?_
    show OGets p e below _ (T187.setTop (mkF m 83 #[.val (.ref ao), .val (.int (hg - (1 : Int32)))] []))
    refine OGets.step (fun _ => XS.aloadN X187.here hx rfl (hb hby d78m4_83) rfl rfl) ?_
    obtain ⟨T197, X197, e197, st197⟩ := getF X187 hx hZ hown (host := "") (Or.inl (hw _ (List.mem_of_getElem? (i := 16) rfl))) Via.refl e187 (V186.fld 0 rfl 2 rfl rfl) (g := (mkF m 84 #[.val (.ref ao), .val (.int (hg - (1 : Int32)))] [(.ref ao)])) rfl rfl (hb hby d78m4_84)
    refine OGets.step st197 ?_
    refine OGets.step (fun _ => XS.iloadN X197.here hx rfl (hb hby d78m4_87) rfl) ?_
    obtain ⟨cl198, Ar198, S198⟩ := V186.arr 1 rfl
    refine OGets.step (fun _ => X197.iaload hx (j := (hg - (1 : Int32))) (v := (.int (gi CC (hg - (1 : Int32))))) (by rw [e197]; exact Ar198.1) (State.isArrayOf_alike hZ.alike Ar198.2.1) Ar198.2.2 (own_sin (n := 5) S198 (by simp only [List.length_map, si_len, sj_len, List.length_replicate, hlC]) hh0) (own_sgetI (n := 5) S198 (by simp only [List.length_map, si_len, sj_len, List.length_replicate, hlC]) hh0) (g := (mkF m 88 #[.val (.ref ao), .val (.int (hg - (1 : Int32)))] [(.int (hg - (1 : Int32))), (.ref ac)])) rfl rfl (hb hby d78m4_88) _) ?_
    by_cases hc89_199 : (0 : Int32) < (gi CC (hg - (1 : Int32)))
    · refine OGets.step (fun _ => XS.ifNo X197.here hx rfl (hb hby d78m4_89) rfl ((if0 _ _).trans (tlt hc89_199).2.2.2)) ?_
      show OGets p e below _ (T197.setTop (mkF m 92 #[.val (.ref ao), .val (.int (hg - (1 : Int32)))] []))
      refine OGets.step (fun _ => XS.iconst X197.here hx rfl (hb hby d78m4_92)) ?_
      refine OGets.step (fun _ => XS.goto X197.here hx rfl (pc0 := 93) (pc' := 97) rfl (hb hby d78m4_93) (by decide) (by decide)) ?_
      refine OGets.retN X197 hx hlk (t := .boolean) Bd.returns (by simp) (hb hby d78m4_97) (Nat.le_of_ble_eq_true rfl) (Nat.le_of_ble_eq_true rfl) ?_
      have t1 : poC CC (hg - (1 : Int32)) = CC := if_neg hc63_188
      have t3 : poV CC (hg - (1 : Int32)) = (1 : Int32) := by unfold poV; rw [t1]; exact if_pos hc89_199
      rw [e197]
      refine ⟨congrArg (fun z => some (Value.int z)) t3.symm, N186, ?_⟩
      rw [t1]
      exact V186
    · refine OGets.step (fun _ => XS.ifYes X197.here hx rfl (pc0 := 89) (pc' := 96) rfl (hb hby d78m4_89) rfl ((if0 _ _).trans (flt hc89_199).2.2.2) (by decide) (by decide)) ?_
      show OGets p e below _ (T197.setTop (mkF m 96 #[.val (.ref ao), .val (.int (hg - (1 : Int32)))] []))
      refine OGets.step (fun _ => XS.iconst X197.here hx rfl (hb hby d78m4_96)) ?_
      refine OGets.retN X197 hx hlk (t := .boolean) Bd.returns (by simp) (hb hby d78m4_97) (Nat.le_of_ble_eq_true rfl) (Nat.le_of_ble_eq_true rfl) ?_
      have t1 : poC CC (hg - (1 : Int32)) = CC := if_neg hc63_188
      have t3 : poV CC (hg - (1 : Int32)) = (0 : Int32) := by unfold poV; rw [t1]; exact if_neg hc89_199
      rw [e197]
      refine ⟨congrArg (fun z => some (Value.int z)) t3.symm, N186, ?_⟩
      rw [t1]
      exact V186
theorem d78m4_19 : decode prog_78_method_4_code 19 = .ok (.aload_n 0, 1) := by decide +kernel
theorem d78m4_20 : decode prog_78_method_4_code 20 = .ok (.getfield 17, 3) := by decide +kernel
theorem d78m4_23 : decode prog_78_method_4_code 23 = .ok (.iload_n 1, 1) := by decide +kernel
theorem d78m4_24 : decode prog_78_method_4_code 24 = .ok (.dup2, 1) := by decide +kernel
theorem d78m4_25 : decode prog_78_method_4_code 25 = .ok (.iaload, 1) := by decide +kernel
theorem d78m4_26 : decode prog_78_method_4_code 26 = .ok (.aload_n 0, 1) := by decide +kernel
theorem d78m4_27 : decode prog_78_method_4_code 27 = .ok (.getfield 20, 3) := by decide +kernel
theorem d78m4_30 : decode prog_78_method_4_code 30 = .ok (.iload_n 1, 1) := by decide +kernel
theorem d78m4_31 : decode prog_78_method_4_code 31 = .ok (.iaload, 1) := by decide +kernel
theorem d78m4_32 : decode prog_78_method_4_code 32 = .ok (.iadd, 1) := by decide +kernel
theorem d78m4_33 : decode prog_78_method_4_code 33 = .ok (.iastore, 1) := by decide +kernel
theorem d78m4_34 : decode prog_78_method_4_code 34 = .ok (.iload_n 1, 1) := by decide +kernel
theorem d78m4_35 : decode prog_78_method_4_code 35 = .ok (.aload_n 0, 1) := by decide +kernel
theorem d78m4_36 : decode prog_78_method_4_code 36 = .ok (.getfield 7, 3) := by decide +kernel
theorem d78m4_39 : decode prog_78_method_4_code 39 = .ok (.if_icmp .lt 23, 3) := by decide +kernel
theorem d78m4_42 : decode prog_78_method_4_code 42 = .ok (.aload_n 0, 1) := by decide +kernel
theorem d78m4_43 : decode prog_78_method_4_code 43 = .ok (.getfield 20, 3) := by decide +kernel
theorem d78m4_46 : decode prog_78_method_4_code 46 = .ok (.iload_n 1, 1) := by decide +kernel
theorem d78m4_47 : decode prog_78_method_4_code 47 = .ok (.aload_n 0, 1) := by decide +kernel
theorem d78m4_48 : decode prog_78_method_4_code 48 = .ok (.getfield 7, 3) := by decide +kernel
theorem d78m4_51 : decode prog_78_method_4_code 51 = .ok (.isub, 1) := by decide +kernel
theorem d78m4_52 : decode prog_78_method_4_code 52 = .ok (.dup2, 1) := by decide +kernel
theorem d78m4_53 : decode prog_78_method_4_code 53 = .ok (.iaload, 1) := by decide +kernel
theorem d78m4_54 : decode prog_78_method_4_code 54 = .ok (.aload_n 0, 1) := by decide +kernel
theorem d78m4_55 : decode prog_78_method_4_code 55 = .ok (.getfield 20, 3) := by decide +kernel
theorem d78m4_58 : decode prog_78_method_4_code 58 = .ok (.iload_n 1, 1) := by decide +kernel
theorem d78m4_59 : decode prog_78_method_4_code 59 = .ok (.iaload, 1) := by decide +kernel
theorem d78m4_60 : decode prog_78_method_4_code 60 = .ok (.iadd, 1) := by decide +kernel
theorem d78m4_61 : decode prog_78_method_4_code 61 = .ok (.iastore, 1) := by decide +kernel
theorem ef_popB (m : MethodId) (x0 : Addr) : entryFrame m #[(.ref x0)] 2 = mkF m 0 #[.val (.ref x0), .unset] [] := by first | (simp [entryFrame, mkF, argsToLocals, Value.category]; done) | rfl
def Q_popB (Z : State) (ab : Addr) (ay : Addr) (ao : Addr) (au : Addr) (ac : Addr) (per : Int32) (hg : Int32) (CC : List Int32) (BB : List Int32) (h0 : Heap) (n0 : Nat) (F : List (Addr × OObj)) (v : Option Value) (h : Heap) (L : List Loc) : Prop := v = some (.int (poV (poA CC BB (hg - (1 : Int32))) (hg - (1 : Int32)))) ∧ Fr n0 L ∧ OView Z n0 h (oC ao [(.int per), (.ref au), (.ref ac), (.ref ab), (.ref ay), (.int (hg - (1 : Int32)))] :: oA ac (poC (poA CC BB (hg - (1 : Int32))) (hg - (1 : Int32))) :: oA ab (poB BB per (hg - (1 : Int32))) :: F)
set_option maxRecDepth 65536 in
set_option maxHeartbeats 40000000 in
theorem rm_popB (l : Launch) (Z : State) (a0 : Array Value) (hw : ∀ d ∈ tables_1, d.before a0 Z = true) (ws : List Jvm.Cond) (ab : Addr) (ay : Addr) (ao : Addr) (au : Addr) (ac : Addr) (per : Int32) (hg : Int32) (CC : List Int32) (BB : List Int32) (h0 : Heap) (n0 : Nat) (F : List (Addr × OObj)) (Z0 : n0 ≤ h0.size) (hlC : CC.length = 5) (hh0 : inb 5 (hg - (1 : Int32))) (hh1 : (0 : Int32) < (hg - (1 : Int32)) → inb 5 ((hg - (1 : Int32)) - (1 : Int32))) (hlB : BB.length = 5) (hh2 : ¬ (hg - (1 : Int32)) < per → inb 5 ((hg - (1 : Int32)) - per)) (V0 : OView Z n0 h0 (oC ao [(.int per), (.ref au), (.ref ac), (.ref ab), (.ref ay), (.int hg)] :: oA ac CC :: oA ab BB :: F)) :
    MetFree l (⟨"com/example/pelt/pelt/StackCounts", "pop", "()Z"⟩ : MethodName) (head1 (Jvm.Cond.code (⟨"com/example/pelt/pelt/StackCounts", "pop", "()Z"⟩ : MethodName) prog_78_method_4_code 2 (some .boolean) :: ws) ({ frames := 0, cells := 0, slots := 0, locals := 0 } : Room)) (fun a_ U => a_ = #[(.ref ao)] ∧ Z.Warmed39 U.vm ∧ U.heap = h0) (fun _ _ _ _ _ => True) (fun _ U o U' => ∃ v L, o = .returned v ∧ Q_popB Z ab ay ao au ac per hg CC BB h0 n0 F v U'.heap L ∧ FrameEnd U o U' L ({ frames := 0, cells := 0, slots := 0, locals := 0 } : Room).cells ({ frames := 0, cells := 0, slots := 0, locals := 0 } : Room).slots) := by
  refine MetFree.of_bodySF (plainFor_of_name pn_3) hisR ?_
  intro p e s m args below meth c s₁ Bd hml0 hP hK
  obtain ⟨rfl, hZ, hh⟩ := hP
  have hx := Bd.exec
  have hby := Bd.bytes
  have hlk : meth.locks = false := Bd.notSynchronized
  have hml : c.maxLocals = 2 := hml0
  have hown : s.vm.findClass "com/example/pelt/pelt/StackCounts" = some m.cls := findClass_of_methodNamed Bd.named
  have hnm := (name_of_methodNamed Bd.named Bd.method).1
  have X0 : Stand p l e ({ frames := 0, cells := 0, slots := 0, locals := 0 } : Room) s m #[(.ref ao)] below meth c s₁ [] 0 0 := Stand.of_body Bd
  have e0 : s₁.heap = h0 := by rw [← hh, Bd.state]; rfl
  have N0 := Fr.nil n0
  show OGets p e below (OLeaves s (Q_popB Z ab ay ao au ac per hg CC BB h0 n0 F ) ({ frames := 0, cells := 0, slots := 0, locals := 0 } : Room).cells ({ frames := 0, cells := 0, slots := 0, locals := 0 } : Room).slots) _
  refine OGets.enter (ef_popB m ao) ?_
  show OGets p e below _ (s₁.setTop (mkF m 0 #[.val (.ref ao), .unset] []))
  refine OGets.step (fun _ => XS.aloadN X0.here hx rfl (hb hby d78m4_0) rfl rfl) ?_
  refine OGets.step (fun _ => XS.dup X0.here hx rfl (hb hby d78m4_1) rfl rfl) ?_
  obtain ⟨T200, X200, e200, st200⟩ := getF X0 hx hZ hown (host := "") (Or.inl (hw _ (List.mem_of_getElem? (i := 27) rfl))) Via.refl e0 (V0.fld 0 rfl 5 rfl rfl) (g := (mkF m 2 #[.val (.ref ao), .unset] [(.ref ao), (.ref ao)])) rfl rfl (hb hby d78m4_2)
  refine OGets.step st200 ?_
  refine OGets.step (fun _ => XS.iconst X200.here hx rfl (hb hby d78m4_5)) ?_
  refine OGets.step (fun _ => XS.isub X200.here hx rfl (hb hby d78m4_6) rfl) ?_
  refine OGets.step (fun _ => XS.dupX1 X200.here hx rfl (hb hby d78m4_7) rfl rfl rfl) ?_
  obtain ⟨T201, h201, X201, e201, W201, st201⟩ := putF X200 hx hZ hown (host := "") (Or.inl (hw _ (List.mem_of_getElem? (i := 27) rfl))) Via.refl e200 (V0.fld 0 rfl 5 rfl rfl) (V0.exa 0 rfl) (Or.inl (hw _ (List.mem_of_getElem? (i := 28) rfl))) (hw _ (List.mem_of_getElem? (i := 3) rfl)) (ty := .int) (by decide) rfl rfl (g := (mkF m 8 #[.val (.ref ao), .unset] [(.int (hg - (1 : Int32))), (.ref ao), (.int (hg - (1 : Int32)))])) rfl rfl (hb hby d78m4_8)
  have V201 : OView Z n0 h201 (oC ao [(.int per), (.ref au), (.ref ac), (.ref ab), (.ref ay), (.int (hg - (1 : Int32)))] :: oA ac CC :: oA ab BB :: F) := V0.putF 0 rfl 5 rfl W201
  have N201 := Fr.snoc X201 N0 (V0.old 0 rfl)
  have Z201 : n0 ≤ h201.size := by rw [W201.size]; exact Z0
  refine OGets.step st201 ?_
  refine OGets.step (fun _ => XS.istoreN X201.here hx rfl (hb hby d78m4_11) rfl (l' := #[.val (.ref ao), .val (.int (hg - (1 : Int32)))]) rfl) ?_
  refine OGets.step (fun _ => XS.aloadN X201.here hx rfl (hb hby d78m4_12) rfl rfl) ?_
  obtain ⟨T202, X202, e202, st202⟩ := getF X201 hx hZ hown (host := "") (Or.inl (hw _ (List.mem_of_getElem? (i := 18) rfl))) Via.refl e201 (V201.fld 0 rfl 3 rfl rfl) (g := (mkF m 13 #[.val (.ref ao), .val (.int (hg - (1 : Int32)))] [(.ref ao)])) rfl rfl (hb hby d78m4_13)
  refine OGets.step st202 ?_
  refine OGets.step (fun _ => XS.ifnullNo X202.here hx rfl (hb hby d78m4_16) rfl) ?_
  refine OGets.step (fun _ => XS.aloadN X202.here hx rfl (hb hby d78m4_19) rfl rfl) ?_
  obtain ⟨T203, X203, e203, st203⟩ := getF X202 hx hZ hown (host := "") (Or.inl (hw _ (List.mem_of_getElem? (i := 16) rfl))) Via.refl e202 (V201.fld 0 rfl 2 rfl rfl) (g := (mkF m 20 #[.val (.ref ao), .val (.int (hg - (1 : Int32)))] [(.ref ao)])) rfl rfl (hb hby d78m4_20)
  refine OGets.step st203 ?_
  refine OGets.step (fun _ => XS.iloadN X203.here hx rfl (hb hby d78m4_23) rfl) ?_
  refine OGets.step (U' := T203.setTop (mkF m 25 #[.val (.ref ao), .val (.int (hg - (1 : Int32)))] [(.int (hg - (1 : Int32))), (.ref ac), (.int (hg - (1 : Int32))), (.ref ac)])) (fun t kt => ?_) ?_
  · jvm_step X203.here [X203.here.top, hx, (hb hby d78m4_24), Value.category]
    exact kt
  obtain ⟨cl204, Ar204, S204⟩ := V201.arr 1 rfl
  refine OGets.step (fun _ => X203.iaload hx (j := (hg - (1 : Int32))) (v := (.int (gi CC (hg - (1 : Int32))))) (by rw [e203]; exact Ar204.1) (State.isArrayOf_alike hZ.alike Ar204.2.1) Ar204.2.2 (own_sin (n := 5) S204 (by simp only [List.length_map, si_len, sj_len, List.length_replicate, hlC]) hh0) (own_sgetI (n := 5) S204 (by simp only [List.length_map, si_len, sj_len, List.length_replicate, hlC]) hh0) (g := (mkF m 25 #[.val (.ref ao), .val (.int (hg - (1 : Int32)))] [(.int (hg - (1 : Int32))), (.ref ac), (.int (hg - (1 : Int32))), (.ref ac)])) rfl rfl (hb hby d78m4_25) _) ?_
  refine OGets.step (fun _ => XS.aloadN X203.here hx rfl (hb hby d78m4_26) rfl rfl) ?_
  obtain ⟨T205, X205, e205, st205⟩ := getF X203 hx hZ hown (host := "") (Or.inl (hw _ (List.mem_of_getElem? (i := 18) rfl))) Via.refl e203 (V201.fld 0 rfl 3 rfl rfl) (g := (mkF m 27 #[.val (.ref ao), .val (.int (hg - (1 : Int32)))] [(.ref ao), (.int (gi CC (hg - (1 : Int32)))), (.int (hg - (1 : Int32))), (.ref ac)])) rfl rfl (hb hby d78m4_27)
  refine OGets.step st205 ?_
  refine OGets.step (fun _ => XS.iloadN X205.here hx rfl (hb hby d78m4_30) rfl) ?_
  obtain ⟨cl206, Ar206, S206⟩ := V201.arr 2 rfl
  refine OGets.step (fun _ => X205.iaload hx (j := (hg - (1 : Int32))) (v := (.int (gi BB (hg - (1 : Int32))))) (by rw [e205]; exact Ar206.1) (State.isArrayOf_alike hZ.alike Ar206.2.1) Ar206.2.2 (own_sin (n := 5) S206 (by simp only [List.length_map, si_len, sj_len, List.length_replicate, hlB]) hh0) (own_sgetI (n := 5) S206 (by simp only [List.length_map, si_len, sj_len, List.length_replicate, hlB]) hh0) (g := (mkF m 31 #[.val (.ref ao), .val (.int (hg - (1 : Int32)))] [(.int (hg - (1 : Int32))), (.ref ab), (.int (gi CC (hg - (1 : Int32)))), (.int (hg - (1 : Int32))), (.ref ac)])) rfl rfl (hb hby d78m4_31) _) ?_
  refine OGets.step (fun _ => XS.iadd X205.here hx rfl (hb hby d78m4_32) rfl) ?_
  obtain ⟨cl207, Ar207, S207⟩ := V201.arr 1 rfl
  obtain ⟨T207, h207, X207, e207, W207, st207⟩ := stI X205 hx hZ e205 Ar207 (j := (hg - (1 : Int32))) (own_sin (n := 5) S207 (by simp only [List.length_map, si_len, sj_len, List.length_replicate, hlC]) hh0) (g := (mkF m 33 #[.val (.ref ao), .val (.int (hg - (1 : Int32)))] [(.int ((gi CC (hg - (1 : Int32))) + (gi BB (hg - (1 : Int32))))), (.int (hg - (1 : Int32))), (.ref ac)])) rfl rfl (hb hby d78m4_33)
  have V207 : OView Z n0 h207 (oC ao [(.int per), (.ref au), (.ref ac), (.ref ab), (.ref ay), (.int (hg - (1 : Int32)))] :: oA ac (si CC (hg - (1 : Int32)) ((gi CC (hg - (1 : Int32))) + (gi BB (hg - (1 : Int32))))) :: oA ab BB :: F) := V201.putI 1 rfl W207
  have N207 := Fr.snoc X207 N201 (V201.old 1 rfl)
  have Z207 : n0 ≤ h207.size := by rw [W207.size]; exact Z201
  refine OGets.step st207 ?_
  refine OGets.step (fun _ => XS.iloadN X207.here hx rfl (hb hby d78m4_34) rfl) ?_
  refine OGets.step (fun _ => XS.aloadN X207.here hx rfl (hb hby d78m4_35) rfl rfl) ?_
  obtain ⟨T208, X208, e208, st208⟩ := getF X207 hx hZ hown (host := "") (Or.inl (hw _ (List.mem_of_getElem? (i := 11) rfl))) Via.refl e207 (V207.fld 0 rfl 0 rfl rfl) (g := (mkF m 36 #[.val (.ref ao), .val (.int (hg - (1 : Int32)))] [(.ref ao), (.int (hg - (1 : Int32)))])) rfl rfl (hb hby d78m4_36)
  refine OGets.step st208 ?_
  by_cases hc39_209 : (hg - (1 : Int32)) < per
  · refine OGets.step (fun _ => XS.icmpYes X208.here hx rfl (pc0 := 39) (pc' := 62) rfl (hb hby d78m4_39) rfl (tlt hc39_209).1 (by decide) (by decide)) ?_
    show OGets p e below _ (T208.setTop (mkF m 62 #[.val (.ref ao), .val (.int (hg - (1 : Int32)))] []))
    refine OGets.step (fun _ => XS.iloadN X208.here hx rfl (hb hby d78m4_62) rfl) ?_
    by_cases hc63_210 : (0 : Int32) < (hg - (1 : Int32))
    · refine OGets.step (fun _ => XS.ifNo X208.here hx rfl (hb hby d78m4_63) rfl ((if0 _ _).trans (tlt hc63_210).2.2.2)) ?_
      show OGets p e below _ (T208.setTop (mkF m 66 #[.val (.ref ao), .val (.int (hg - (1 : Int32)))] []))
      refine OGets.step (fun _ => XS.aloadN X208.here hx rfl (hb hby d78m4_66) rfl rfl) ?_
      obtain ⟨T211, X211, e211, st211⟩ := getF X208 hx hZ hown (host := "") (Or.inl (hw _ (List.mem_of_getElem? (i := 16) rfl))) Via.refl e208 (V207.fld 0 rfl 2 rfl rfl) (g := (mkF m 67 #[.val (.ref ao), .val (.int (hg - (1 : Int32)))] [(.ref ao)])) rfl rfl (hb hby d78m4_67)
      refine OGets.step st211 ?_
      refine OGets.step (fun _ => XS.iloadN X211.here hx rfl (hb hby d78m4_70) rfl) ?_
      refine OGets.step (fun _ => XS.iconst X211.here hx rfl (hb hby d78m4_71)) ?_
      refine OGets.step (fun _ => XS.isub X211.here hx rfl (hb hby d78m4_72) rfl) ?_
      refine OGets.step (U' := T211.setTop (mkF m 74 #[.val (.ref ao), .val (.int (hg - (1 : Int32)))] [(.int ((hg - (1 : Int32)) - (1 : Int32))), (.ref ac), (.int ((hg - (1 : Int32)) - (1 : Int32))), (.ref ac)])) (fun t kt => ?_) ?_
      · jvm_step X211.here [X211.here.top, hx, (hb hby d78m4_73), Value.category]
        exact kt
      obtain ⟨cl212, Ar212, S212⟩ := V207.arr 1 rfl
      refine OGets.step (fun _ => X211.iaload hx (j := ((hg - (1 : Int32)) - (1 : Int32))) (v := (.int (gi (si CC (hg - (1 : Int32)) ((gi CC (hg - (1 : Int32))) + (gi BB (hg - (1 : Int32))))) ((hg - (1 : Int32)) - (1 : Int32))))) (by rw [e211]; exact Ar212.1) (State.isArrayOf_alike hZ.alike Ar212.2.1) Ar212.2.2 (own_sin (n := 5) S212 (by simp only [List.length_map, si_len, sj_len, List.length_replicate, hlC]) (hh1 hc63_210)) (own_sgetI (n := 5) S212 (by simp only [List.length_map, si_len, sj_len, List.length_replicate, hlC]) (hh1 hc63_210)) (g := (mkF m 74 #[.val (.ref ao), .val (.int (hg - (1 : Int32)))] [(.int ((hg - (1 : Int32)) - (1 : Int32))), (.ref ac), (.int ((hg - (1 : Int32)) - (1 : Int32))), (.ref ac)])) rfl rfl (hb hby d78m4_74) _) ?_
      refine OGets.step (fun _ => XS.aloadN X211.here hx rfl (hb hby d78m4_75) rfl rfl) ?_
      obtain ⟨T213, X213, e213, st213⟩ := getF X211 hx hZ hown (host := "") (Or.inl (hw _ (List.mem_of_getElem? (i := 16) rfl))) Via.refl e211 (V207.fld 0 rfl 2 rfl rfl) (g := (mkF m 76 #[.val (.ref ao), .val (.int (hg - (1 : Int32)))] [(.ref ao), (.int (gi (si CC (hg - (1 : Int32)) ((gi CC (hg - (1 : Int32))) + (gi BB (hg - (1 : Int32))))) ((hg - (1 : Int32)) - (1 : Int32)))), (.int ((hg - (1 : Int32)) - (1 : Int32))), (.ref ac)])) rfl rfl (hb hby d78m4_76)
      refine OGets.step st213 ?_
      refine OGets.step (fun _ => XS.iloadN X213.here hx rfl (hb hby d78m4_79) rfl) ?_
      obtain ⟨cl214, Ar214, S214⟩ := V207.arr 1 rfl
      refine OGets.step (fun _ => X213.iaload hx (j := (hg - (1 : Int32))) (v := (.int (gi (si CC (hg - (1 : Int32)) ((gi CC (hg - (1 : Int32))) + (gi BB (hg - (1 : Int32))))) (hg - (1 : Int32))))) (by rw [e213]; exact Ar214.1) (State.isArrayOf_alike hZ.alike Ar214.2.1) Ar214.2.2 (own_sin (n := 5) S214 (by simp only [List.length_map, si_len, sj_len, List.length_replicate, hlC]) hh0) (own_sgetI (n := 5) S214 (by simp only [List.length_map, si_len, sj_len, List.length_replicate, hlC]) hh0) (g := (mkF m 80 #[.val (.ref ao), .val (.int (hg - (1 : Int32)))] [(.int (hg - (1 : Int32))), (.ref ac), (.int (gi (si CC (hg - (1 : Int32)) ((gi CC (hg - (1 : Int32))) + (gi BB (hg - (1 : Int32))))) ((hg - (1 : Int32)) - (1 : Int32)))), (.int ((hg - (1 : Int32)) - (1 : Int32))), (.ref ac)])) rfl rfl (hb hby d78m4_80) _) ?_
      refine OGets.step (fun _ => XS.iadd X213.here hx rfl (hb hby d78m4_81) rfl) ?_
      obtain ⟨cl215, Ar215, S215⟩ := V207.arr 1 rfl
      obtain ⟨T215, h215, X215, e215, W215, st215⟩ := stI X213 hx hZ e213 Ar215 (j := ((hg - (1 : Int32)) - (1 : Int32))) (own_sin (n := 5) S215 (by simp only [List.length_map, si_len, sj_len, List.length_replicate, hlC]) (hh1 hc63_210)) (g := (mkF m 82 #[.val (.ref ao), .val (.int (hg - (1 : Int32)))] [(.int ((gi (si CC (hg - (1 : Int32)) ((gi CC (hg - (1 : Int32))) + (gi BB (hg - (1 : Int32))))) ((hg - (1 : Int32)) - (1 : Int32))) + (gi (si CC (hg - (1 : Int32)) ((gi CC (hg - (1 : Int32))) + (gi BB (hg - (1 : Int32))))) (hg - (1 : Int32))))), (.int ((hg - (1 : Int32)) - (1 : Int32))), (.ref ac)])) rfl rfl (hb hby d78m4_82)
      have V215 : OView Z n0 h215 (oC ao [(.int per), (.ref au), (.ref ac), (.ref ab), (.ref ay), (.int (hg - (1 : Int32)))] :: oA ac (si (si CC (hg - (1 : Int32)) ((gi CC (hg - (1 : Int32))) + (gi BB (hg - (1 : Int32))))) ((hg - (1 : Int32)) - (1 : Int32)) ((gi (si CC (hg - (1 : Int32)) ((gi CC (hg - (1 : Int32))) + (gi BB (hg - (1 : Int32))))) ((hg - (1 : Int32)) - (1 : Int32))) + (gi (si CC (hg - (1 : Int32)) ((gi CC (hg - (1 : Int32))) + (gi BB (hg - (1 : Int32))))) (hg - (1 : Int32))))) :: oA ab BB :: F) := V207.putI 1 rfl W215
      have N215 := Fr.snoc X215 N207 (V207.old 1 rfl)
      have Z215 : n0 ≤ h215.size := by rw [W215.size]; exact Z207
      refine OGets.step st215 ?_
      refine OGets.step (fun _ => XS.aloadN X215.here hx rfl (hb hby d78m4_83) rfl rfl) ?_
      obtain ⟨T216, X216, e216, st216⟩ := getF X215 hx hZ hown (host := "") (Or.inl (hw _ (List.mem_of_getElem? (i := 16) rfl))) Via.refl e215 (V215.fld 0 rfl 2 rfl rfl) (g := (mkF m 84 #[.val (.ref ao), .val (.int (hg - (1 : Int32)))] [(.ref ao)])) rfl rfl (hb hby d78m4_84)
      refine OGets.step st216 ?_
      refine OGets.step (fun _ => XS.iloadN X216.here hx rfl (hb hby d78m4_87) rfl) ?_
      obtain ⟨cl217, Ar217, S217⟩ := V215.arr 1 rfl
      refine OGets.step (fun _ => X216.iaload hx (j := (hg - (1 : Int32))) (v := (.int (gi (si (si CC (hg - (1 : Int32)) ((gi CC (hg - (1 : Int32))) + (gi BB (hg - (1 : Int32))))) ((hg - (1 : Int32)) - (1 : Int32)) ((gi (si CC (hg - (1 : Int32)) ((gi CC (hg - (1 : Int32))) + (gi BB (hg - (1 : Int32))))) ((hg - (1 : Int32)) - (1 : Int32))) + (gi (si CC (hg - (1 : Int32)) ((gi CC (hg - (1 : Int32))) + (gi BB (hg - (1 : Int32))))) (hg - (1 : Int32))))) (hg - (1 : Int32))))) (by rw [e216]; exact Ar217.1) (State.isArrayOf_alike hZ.alike Ar217.2.1) Ar217.2.2 (own_sin (n := 5) S217 (by simp only [List.length_map, si_len, sj_len, List.length_replicate, hlC]) hh0) (own_sgetI (n := 5) S217 (by simp only [List.length_map, si_len, sj_len, List.length_replicate, hlC]) hh0) (g := (mkF m 88 #[.val (.ref ao), .val (.int (hg - (1 : Int32)))] [(.int (hg - (1 : Int32))), (.ref ac)])) rfl rfl (hb hby d78m4_88) _) ?_
      by_cases hc89_218 : (0 : Int32) < (gi (si (si CC (hg - (1 : Int32)) ((gi CC (hg - (1 : Int32))) + (gi BB (hg - (1 : Int32))))) ((hg - (1 : Int32)) - (1 : Int32)) ((gi (si CC (hg - (1 : Int32)) ((gi CC (hg - (1 : Int32))) + (gi BB (hg - (1 : Int32))))) ((hg - (1 : Int32)) - (1 : Int32))) + (gi (si CC (hg - (1 : Int32)) ((gi CC (hg - (1 : Int32))) + (gi BB (hg - (1 : Int32))))) (hg - (1 : Int32))))) (hg - (1 : Int32)))
      · refine OGets.step (fun _ => XS.ifNo X216.here hx rfl (hb hby d78m4_89) rfl ((if0 _ _).trans (tlt hc89_218).2.2.2)) ?_
        show OGets p e below _ (T216.setTop (mkF m 92 #[.val (.ref ao), .val (.int (hg - (1 : Int32)))] []))
        refine OGets.step (fun _ => XS.iconst X216.here hx rfl (hb hby d78m4_92)) ?_
        refine OGets.step (fun _ => XS.goto X216.here hx rfl (pc0 := 93) (pc' := 97) rfl (hb hby d78m4_93) (by decide) (by decide)) ?_
        refine OGets.retN X216 hx hlk (t := .boolean) Bd.returns (by simp) (hb hby d78m4_97) (Nat.le_of_ble_eq_true rfl) (Nat.le_of_ble_eq_true rfl) ?_
        have t1 : poC (poA CC BB (hg - (1 : Int32))) (hg - (1 : Int32)) = (si (si CC (hg - (1 : Int32)) ((gi CC (hg - (1 : Int32))) + (gi BB (hg - (1 : Int32))))) ((hg - (1 : Int32)) - (1 : Int32)) ((gi (si CC (hg - (1 : Int32)) ((gi CC (hg - (1 : Int32))) + (gi BB (hg - (1 : Int32))))) ((hg - (1 : Int32)) - (1 : Int32))) + (gi (si CC (hg - (1 : Int32)) ((gi CC (hg - (1 : Int32))) + (gi BB (hg - (1 : Int32))))) (hg - (1 : Int32))))) := if_pos hc63_210
        have t3 : poV (poA CC BB (hg - (1 : Int32))) (hg - (1 : Int32)) = (1 : Int32) := by unfold poV; rw [t1]; exact if_pos hc89_218
        have t2 : poB BB per (hg - (1 : Int32)) = BB := if_pos hc39_209
        rw [e216]
        refine ⟨congrArg (fun z => some (Value.int z)) t3.symm, N215, ?_⟩
        rw [t1, t2]
        exact V215
      · refine OGets.step (fun _ => XS.ifYes X216.here hx rfl (pc0 := 89) (pc' := 96) rfl (hb hby d78m4_89) rfl ((if0 _ _).trans (flt hc89_218).2.2.2) (by decide) (by decide)) ?_
        show OGets p e below _ (T216.setTop (mkF m 96 #[.val (.ref ao), .val (.int (hg - (1 : Int32)))] []))
        refine OGets.step (fun _ => XS.iconst X216.here hx rfl (hb hby d78m4_96)) ?_
        refine OGets.retN X216 hx hlk (t := .boolean) Bd.returns (by simp) (hb hby d78m4_97) (Nat.le_of_ble_eq_true rfl) (Nat.le_of_ble_eq_true rfl) ?_
        have t1 : poC (poA CC BB (hg - (1 : Int32))) (hg - (1 : Int32)) = (si (si CC (hg - (1 : Int32)) ((gi CC (hg - (1 : Int32))) + (gi BB (hg - (1 : Int32))))) ((hg - (1 : Int32)) - (1 : Int32)) ((gi (si CC (hg - (1 : Int32)) ((gi CC (hg - (1 : Int32))) + (gi BB (hg - (1 : Int32))))) ((hg - (1 : Int32)) - (1 : Int32))) + (gi (si CC (hg - (1 : Int32)) ((gi CC (hg - (1 : Int32))) + (gi BB (hg - (1 : Int32))))) (hg - (1 : Int32))))) := if_pos hc63_210
        have t3 : poV (poA CC BB (hg - (1 : Int32))) (hg - (1 : Int32)) = (0 : Int32) := by unfold poV; rw [t1]; exact if_neg hc89_218
        have t2 : poB BB per (hg - (1 : Int32)) = BB := if_pos hc39_209
        rw [e216]
        refine ⟨congrArg (fun z => some (Value.int z)) t3.symm, N215, ?_⟩
        rw [t1, t2]
        exact V215
    · refine OGets.step (fun _ => XS.ifYes X208.here hx rfl (pc0 := 63) (pc' := 83) rfl (hb hby d78m4_63) rfl ((if0 _ _).trans (flt hc63_210).2.2.2) (by decide) (by decide)) ?_
      show OGets p e below _ (T208.setTop (mkF m 83 #[.val (.ref ao), .val (.int (hg - (1 : Int32)))] []))
      refine OGets.step (fun _ => XS.aloadN X208.here hx rfl (hb hby d78m4_83) rfl rfl) ?_
      obtain ⟨T219, X219, e219, st219⟩ := getF X208 hx hZ hown (host := "") (Or.inl (hw _ (List.mem_of_getElem? (i := 16) rfl))) Via.refl e208 (V207.fld 0 rfl 2 rfl rfl) (g := (mkF m 84 #[.val (.ref ao), .val (.int (hg - (1 : Int32)))] [(.ref ao)])) rfl rfl (hb hby d78m4_84)
      refine OGets.step st219 ?_
      refine OGets.step (fun _ => XS.iloadN X219.here hx rfl (hb hby d78m4_87) rfl) ?_
      obtain ⟨cl220, Ar220, S220⟩ := V207.arr 1 rfl
      refine OGets.step (fun _ => X219.iaload hx (j := (hg - (1 : Int32))) (v := (.int (gi (si CC (hg - (1 : Int32)) ((gi CC (hg - (1 : Int32))) + (gi BB (hg - (1 : Int32))))) (hg - (1 : Int32))))) (by rw [e219]; exact Ar220.1) (State.isArrayOf_alike hZ.alike Ar220.2.1) Ar220.2.2 (own_sin (n := 5) S220 (by simp only [List.length_map, si_len, sj_len, List.length_replicate, hlC]) hh0) (own_sgetI (n := 5) S220 (by simp only [List.length_map, si_len, sj_len, List.length_replicate, hlC]) hh0) (g := (mkF m 88 #[.val (.ref ao), .val (.int (hg - (1 : Int32)))] [(.int (hg - (1 : Int32))), (.ref ac)])) rfl rfl (hb hby d78m4_88) _) ?_
      by_cases hc89_221 : (0 : Int32) < (gi (si CC (hg - (1 : Int32)) ((gi CC (hg - (1 : Int32))) + (gi BB (hg - (1 : Int32))))) (hg - (1 : Int32)))
      · refine OGets.step (fun _ => XS.ifNo X219.here hx rfl (hb hby d78m4_89) rfl ((if0 _ _).trans (tlt hc89_221).2.2.2)) ?_
        show OGets p e below _ (T219.setTop (mkF m 92 #[.val (.ref ao), .val (.int (hg - (1 : Int32)))] []))
        refine OGets.step (fun _ => XS.iconst X219.here hx rfl (hb hby d78m4_92)) ?_
        refine OGets.step (fun _ => XS.goto X219.here hx rfl (pc0 := 93) (pc' := 97) rfl (hb hby d78m4_93) (by decide) (by decide)) ?_
        refine OGets.retN X219 hx hlk (t := .boolean) Bd.returns (by simp) (hb hby d78m4_97) (Nat.le_of_ble_eq_true rfl) (Nat.le_of_ble_eq_true rfl) ?_
        have t1 : poC (poA CC BB (hg - (1 : Int32))) (hg - (1 : Int32)) = (si CC (hg - (1 : Int32)) ((gi CC (hg - (1 : Int32))) + (gi BB (hg - (1 : Int32))))) := if_neg hc63_210
        have t3 : poV (poA CC BB (hg - (1 : Int32))) (hg - (1 : Int32)) = (1 : Int32) := by unfold poV; rw [t1]; exact if_pos hc89_221
        have t2 : poB BB per (hg - (1 : Int32)) = BB := if_pos hc39_209
        rw [e219]
        refine ⟨congrArg (fun z => some (Value.int z)) t3.symm, N207, ?_⟩
        rw [t1, t2]
        exact V207
      · refine OGets.step (fun _ => XS.ifYes X219.here hx rfl (pc0 := 89) (pc' := 96) rfl (hb hby d78m4_89) rfl ((if0 _ _).trans (flt hc89_221).2.2.2) (by decide) (by decide)) ?_
        show OGets p e below _ (T219.setTop (mkF m 96 #[.val (.ref ao), .val (.int (hg - (1 : Int32)))] []))
        refine OGets.step (fun _ => XS.iconst X219.here hx rfl (hb hby d78m4_96)) ?_
        refine OGets.retN X219 hx hlk (t := .boolean) Bd.returns (by simp) (hb hby d78m4_97) (Nat.le_of_ble_eq_true rfl) (Nat.le_of_ble_eq_true rfl) ?_
        have t1 : poC (poA CC BB (hg - (1 : Int32))) (hg - (1 : Int32)) = (si CC (hg - (1 : Int32)) ((gi CC (hg - (1 : Int32))) + (gi BB (hg - (1 : Int32))))) := if_neg hc63_210
        have t3 : poV (poA CC BB (hg - (1 : Int32))) (hg - (1 : Int32)) = (0 : Int32) := by unfold poV; rw [t1]; exact if_neg hc89_221
        have t2 : poB BB per (hg - (1 : Int32)) = BB := if_pos hc39_209
        rw [e219]
        refine ⟨congrArg (fun z => some (Value.int z)) t3.symm, N207, ?_⟩
        rw [t1, t2]
        exact V207
  · refine OGets.step (fun _ => XS.icmpNo X208.here hx rfl (hb hby d78m4_39) rfl (flt hc39_209).1) ?_
    show OGets p e below _ (T208.setTop (mkF m 42 #[.val (.ref ao), .val (.int (hg - (1 : Int32)))] []))
    refine OGets.step (fun _ => XS.aloadN X208.here hx rfl (hb hby d78m4_42) rfl rfl) ?_
    obtain ⟨T222, X222, e222, st222⟩ := getF X208 hx hZ hown (host := "") (Or.inl (hw _ (List.mem_of_getElem? (i := 18) rfl))) Via.refl e208 (V207.fld 0 rfl 3 rfl rfl) (g := (mkF m 43 #[.val (.ref ao), .val (.int (hg - (1 : Int32)))] [(.ref ao)])) rfl rfl (hb hby d78m4_43)
    refine OGets.step st222 ?_
    refine OGets.step (fun _ => XS.iloadN X222.here hx rfl (hb hby d78m4_46) rfl) ?_
    refine OGets.step (fun _ => XS.aloadN X222.here hx rfl (hb hby d78m4_47) rfl rfl) ?_
    obtain ⟨T223, X223, e223, st223⟩ := getF X222 hx hZ hown (host := "") (Or.inl (hw _ (List.mem_of_getElem? (i := 11) rfl))) Via.refl e222 (V207.fld 0 rfl 0 rfl rfl) (g := (mkF m 48 #[.val (.ref ao), .val (.int (hg - (1 : Int32)))] [(.ref ao), (.int (hg - (1 : Int32))), (.ref ab)])) rfl rfl (hb hby d78m4_48)
    refine OGets.step st223 ?_
    refine OGets.step (fun _ => XS.isub X223.here hx rfl (hb hby d78m4_51) rfl) ?_
    refine OGets.step (U' := T223.setTop (mkF m 53 #[.val (.ref ao), .val (.int (hg - (1 : Int32)))] [(.int ((hg - (1 : Int32)) - per)), (.ref ab), (.int ((hg - (1 : Int32)) - per)), (.ref ab)])) (fun t kt => ?_) ?_
    · jvm_step X223.here [X223.here.top, hx, (hb hby d78m4_52), Value.category]
      exact kt
    obtain ⟨cl224, Ar224, S224⟩ := V207.arr 2 rfl
    refine OGets.step (fun _ => X223.iaload hx (j := ((hg - (1 : Int32)) - per)) (v := (.int (gi BB ((hg - (1 : Int32)) - per)))) (by rw [e223]; exact Ar224.1) (State.isArrayOf_alike hZ.alike Ar224.2.1) Ar224.2.2 (own_sin (n := 5) S224 (by simp only [List.length_map, si_len, sj_len, List.length_replicate, hlB]) (hh2 hc39_209)) (own_sgetI (n := 5) S224 (by simp only [List.length_map, si_len, sj_len, List.length_replicate, hlB]) (hh2 hc39_209)) (g := (mkF m 53 #[.val (.ref ao), .val (.int (hg - (1 : Int32)))] [(.int ((hg - (1 : Int32)) - per)), (.ref ab), (.int ((hg - (1 : Int32)) - per)), (.ref ab)])) rfl rfl (hb hby d78m4_53) _) ?_
    refine OGets.step (fun _ => XS.aloadN X223.here hx rfl (hb hby d78m4_54) rfl rfl) ?_
    obtain ⟨T225, X225, e225, st225⟩ := getF X223 hx hZ hown (host := "") (Or.inl (hw _ (List.mem_of_getElem? (i := 18) rfl))) Via.refl e223 (V207.fld 0 rfl 3 rfl rfl) (g := (mkF m 55 #[.val (.ref ao), .val (.int (hg - (1 : Int32)))] [(.ref ao), (.int (gi BB ((hg - (1 : Int32)) - per))), (.int ((hg - (1 : Int32)) - per)), (.ref ab)])) rfl rfl (hb hby d78m4_55)
    refine OGets.step st225 ?_
    refine OGets.step (fun _ => XS.iloadN X225.here hx rfl (hb hby d78m4_58) rfl) ?_
    obtain ⟨cl226, Ar226, S226⟩ := V207.arr 2 rfl
    refine OGets.step (fun _ => X225.iaload hx (j := (hg - (1 : Int32))) (v := (.int (gi BB (hg - (1 : Int32))))) (by rw [e225]; exact Ar226.1) (State.isArrayOf_alike hZ.alike Ar226.2.1) Ar226.2.2 (own_sin (n := 5) S226 (by simp only [List.length_map, si_len, sj_len, List.length_replicate, hlB]) hh0) (own_sgetI (n := 5) S226 (by simp only [List.length_map, si_len, sj_len, List.length_replicate, hlB]) hh0) (g := (mkF m 59 #[.val (.ref ao), .val (.int (hg - (1 : Int32)))] [(.int (hg - (1 : Int32))), (.ref ab), (.int (gi BB ((hg - (1 : Int32)) - per))), (.int ((hg - (1 : Int32)) - per)), (.ref ab)])) rfl rfl (hb hby d78m4_59) _) ?_
    refine OGets.step (fun _ => XS.iadd X225.here hx rfl (hb hby d78m4_60) rfl) ?_
    obtain ⟨cl227, Ar227, S227⟩ := V207.arr 2 rfl
    obtain ⟨T227, h227, X227, e227, W227, st227⟩ := stI X225 hx hZ e225 Ar227 (j := ((hg - (1 : Int32)) - per)) (own_sin (n := 5) S227 (by simp only [List.length_map, si_len, sj_len, List.length_replicate, hlB]) (hh2 hc39_209)) (g := (mkF m 61 #[.val (.ref ao), .val (.int (hg - (1 : Int32)))] [(.int ((gi BB ((hg - (1 : Int32)) - per)) + (gi BB (hg - (1 : Int32))))), (.int ((hg - (1 : Int32)) - per)), (.ref ab)])) rfl rfl (hb hby d78m4_61)
    have V227 : OView Z n0 h227 (oC ao [(.int per), (.ref au), (.ref ac), (.ref ab), (.ref ay), (.int (hg - (1 : Int32)))] :: oA ac (si CC (hg - (1 : Int32)) ((gi CC (hg - (1 : Int32))) + (gi BB (hg - (1 : Int32))))) :: oA ab (si BB ((hg - (1 : Int32)) - per) ((gi BB ((hg - (1 : Int32)) - per)) + (gi BB (hg - (1 : Int32))))) :: F) := V207.putI 2 rfl W227
    have N227 := Fr.snoc X227 N207 (V207.old 2 rfl)
    have Z227 : n0 ≤ h227.size := by rw [W227.size]; exact Z207
    refine OGets.step st227 ?_
    refine OGets.step (fun _ => XS.iloadN X227.here hx rfl (hb hby d78m4_62) rfl) ?_
    by_cases hc63_228 : (0 : Int32) < (hg - (1 : Int32))
    · refine OGets.step (fun _ => XS.ifNo X227.here hx rfl (hb hby d78m4_63) rfl ((if0 _ _).trans (tlt hc63_228).2.2.2)) ?_
      show OGets p e below _ (T227.setTop (mkF m 66 #[.val (.ref ao), .val (.int (hg - (1 : Int32)))] []))
      refine OGets.step (fun _ => XS.aloadN X227.here hx rfl (hb hby d78m4_66) rfl rfl) ?_
      obtain ⟨T229, X229, e229, st229⟩ := getF X227 hx hZ hown (host := "") (Or.inl (hw _ (List.mem_of_getElem? (i := 16) rfl))) Via.refl e227 (V227.fld 0 rfl 2 rfl rfl) (g := (mkF m 67 #[.val (.ref ao), .val (.int (hg - (1 : Int32)))] [(.ref ao)])) rfl rfl (hb hby d78m4_67)
      refine OGets.step st229 ?_
      refine OGets.step (fun _ => XS.iloadN X229.here hx rfl (hb hby d78m4_70) rfl) ?_
      refine OGets.step (fun _ => XS.iconst X229.here hx rfl (hb hby d78m4_71)) ?_
      refine OGets.step (fun _ => XS.isub X229.here hx rfl (hb hby d78m4_72) rfl) ?_
      refine OGets.step (U' := T229.setTop (mkF m 74 #[.val (.ref ao), .val (.int (hg - (1 : Int32)))] [(.int ((hg - (1 : Int32)) - (1 : Int32))), (.ref ac), (.int ((hg - (1 : Int32)) - (1 : Int32))), (.ref ac)])) (fun t kt => ?_) ?_
      · jvm_step X229.here [X229.here.top, hx, (hb hby d78m4_73), Value.category]
        exact kt
      obtain ⟨cl230, Ar230, S230⟩ := V227.arr 1 rfl
      refine OGets.step (fun _ => X229.iaload hx (j := ((hg - (1 : Int32)) - (1 : Int32))) (v := (.int (gi (si CC (hg - (1 : Int32)) ((gi CC (hg - (1 : Int32))) + (gi BB (hg - (1 : Int32))))) ((hg - (1 : Int32)) - (1 : Int32))))) (by rw [e229]; exact Ar230.1) (State.isArrayOf_alike hZ.alike Ar230.2.1) Ar230.2.2 (own_sin (n := 5) S230 (by simp only [List.length_map, si_len, sj_len, List.length_replicate, hlC]) (hh1 hc63_228)) (own_sgetI (n := 5) S230 (by simp only [List.length_map, si_len, sj_len, List.length_replicate, hlC]) (hh1 hc63_228)) (g := (mkF m 74 #[.val (.ref ao), .val (.int (hg - (1 : Int32)))] [(.int ((hg - (1 : Int32)) - (1 : Int32))), (.ref ac), (.int ((hg - (1 : Int32)) - (1 : Int32))), (.ref ac)])) rfl rfl (hb hby d78m4_74) _) ?_
      refine OGets.step (fun _ => XS.aloadN X229.here hx rfl (hb hby d78m4_75) rfl rfl) ?_
      obtain ⟨T231, X231, e231, st231⟩ := getF X229 hx hZ hown (host := "") (Or.inl (hw _ (List.mem_of_getElem? (i := 16) rfl))) Via.refl e229 (V227.fld 0 rfl 2 rfl rfl) (g := (mkF m 76 #[.val (.ref ao), .val (.int (hg - (1 : Int32)))] [(.ref ao), (.int (gi (si CC (hg - (1 : Int32)) ((gi CC (hg - (1 : Int32))) + (gi BB (hg - (1 : Int32))))) ((hg - (1 : Int32)) - (1 : Int32)))), (.int ((hg - (1 : Int32)) - (1 : Int32))), (.ref ac)])) rfl rfl (hb hby d78m4_76)
      refine OGets.step st231 ?_
      refine OGets.step (fun _ => XS.iloadN X231.here hx rfl (hb hby d78m4_79) rfl) ?_
      obtain ⟨cl232, Ar232, S232⟩ := V227.arr 1 rfl
      refine OGets.step (fun _ => X231.iaload hx (j := (hg - (1 : Int32))) (v := (.int (gi (si CC (hg - (1 : Int32)) ((gi CC (hg - (1 : Int32))) + (gi BB (hg - (1 : Int32))))) (hg - (1 : Int32))))) (by rw [e231]; exact Ar232.1) (State.isArrayOf_alike hZ.alike Ar232.2.1) Ar232.2.2 (own_sin (n := 5) S232 (by simp only [List.length_map, si_len, sj_len, List.length_replicate, hlC]) hh0) (own_sgetI (n := 5) S232 (by simp only [List.length_map, si_len, sj_len, List.length_replicate, hlC]) hh0) (g := (mkF m 80 #[.val (.ref ao), .val (.int (hg - (1 : Int32)))] [(.int (hg - (1 : Int32))), (.ref ac), (.int (gi (si CC (hg - (1 : Int32)) ((gi CC (hg - (1 : Int32))) + (gi BB (hg - (1 : Int32))))) ((hg - (1 : Int32)) - (1 : Int32)))), (.int ((hg - (1 : Int32)) - (1 : Int32))), (.ref ac)])) rfl rfl (hb hby d78m4_80) _) ?_
      refine OGets.step (fun _ => XS.iadd X231.here hx rfl (hb hby d78m4_81) rfl) ?_
      obtain ⟨cl233, Ar233, S233⟩ := V227.arr 1 rfl
      obtain ⟨T233, h233, X233, e233, W233, st233⟩ := stI X231 hx hZ e231 Ar233 (j := ((hg - (1 : Int32)) - (1 : Int32))) (own_sin (n := 5) S233 (by simp only [List.length_map, si_len, sj_len, List.length_replicate, hlC]) (hh1 hc63_228)) (g := (mkF m 82 #[.val (.ref ao), .val (.int (hg - (1 : Int32)))] [(.int ((gi (si CC (hg - (1 : Int32)) ((gi CC (hg - (1 : Int32))) + (gi BB (hg - (1 : Int32))))) ((hg - (1 : Int32)) - (1 : Int32))) + (gi (si CC (hg - (1 : Int32)) ((gi CC (hg - (1 : Int32))) + (gi BB (hg - (1 : Int32))))) (hg - (1 : Int32))))), (.int ((hg - (1 : Int32)) - (1 : Int32))), (.ref ac)])) rfl rfl (hb hby d78m4_82)
      have V233 : OView Z n0 h233 (oC ao [(.int per), (.ref au), (.ref ac), (.ref ab), (.ref ay), (.int (hg - (1 : Int32)))] :: oA ac (si (si CC (hg - (1 : Int32)) ((gi CC (hg - (1 : Int32))) + (gi BB (hg - (1 : Int32))))) ((hg - (1 : Int32)) - (1 : Int32)) ((gi (si CC (hg - (1 : Int32)) ((gi CC (hg - (1 : Int32))) + (gi BB (hg - (1 : Int32))))) ((hg - (1 : Int32)) - (1 : Int32))) + (gi (si CC (hg - (1 : Int32)) ((gi CC (hg - (1 : Int32))) + (gi BB (hg - (1 : Int32))))) (hg - (1 : Int32))))) :: oA ab (si BB ((hg - (1 : Int32)) - per) ((gi BB ((hg - (1 : Int32)) - per)) + (gi BB (hg - (1 : Int32))))) :: F) := V227.putI 1 rfl W233
      have N233 := Fr.snoc X233 N227 (V227.old 1 rfl)
      have Z233 : n0 ≤ h233.size := by rw [W233.size]; exact Z227
      refine OGets.step st233 ?_
      refine OGets.step (fun _ => XS.aloadN X233.here hx rfl (hb hby d78m4_83) rfl rfl) ?_
      obtain ⟨T234, X234, e234, st234⟩ := getF X233 hx hZ hown (host := "") (Or.inl (hw _ (List.mem_of_getElem? (i := 16) rfl))) Via.refl e233 (V233.fld 0 rfl 2 rfl rfl) (g := (mkF m 84 #[.val (.ref ao), .val (.int (hg - (1 : Int32)))] [(.ref ao)])) rfl rfl (hb hby d78m4_84)
      refine OGets.step st234 ?_
      refine OGets.step (fun _ => XS.iloadN X234.here hx rfl (hb hby d78m4_87) rfl) ?_
      obtain ⟨cl235, Ar235, S235⟩ := V233.arr 1 rfl
      refine OGets.step (fun _ => X234.iaload hx (j := (hg - (1 : Int32))) (v := (.int (gi (si (si CC (hg - (1 : Int32)) ((gi CC (hg - (1 : Int32))) + (gi BB (hg - (1 : Int32))))) ((hg - (1 : Int32)) - (1 : Int32)) ((gi (si CC (hg - (1 : Int32)) ((gi CC (hg - (1 : Int32))) + (gi BB (hg - (1 : Int32))))) ((hg - (1 : Int32)) - (1 : Int32))) + (gi (si CC (hg - (1 : Int32)) ((gi CC (hg - (1 : Int32))) + (gi BB (hg - (1 : Int32))))) (hg - (1 : Int32))))) (hg - (1 : Int32))))) (by rw [e234]; exact Ar235.1) (State.isArrayOf_alike hZ.alike Ar235.2.1) Ar235.2.2 (own_sin (n := 5) S235 (by simp only [List.length_map, si_len, sj_len, List.length_replicate, hlC]) hh0) (own_sgetI (n := 5) S235 (by simp only [List.length_map, si_len, sj_len, List.length_replicate, hlC]) hh0) (g := (mkF m 88 #[.val (.ref ao), .val (.int (hg - (1 : Int32)))] [(.int (hg - (1 : Int32))), (.ref ac)])) rfl rfl (hb hby d78m4_88) _) ?_
      by_cases hc89_236 : (0 : Int32) < (gi (si (si CC (hg - (1 : Int32)) ((gi CC (hg - (1 : Int32))) + (gi BB (hg - (1 : Int32))))) ((hg - (1 : Int32)) - (1 : Int32)) ((gi (si CC (hg - (1 : Int32)) ((gi CC (hg - (1 : Int32))) + (gi BB (hg - (1 : Int32))))) ((hg - (1 : Int32)) - (1 : Int32))) + (gi (si CC (hg - (1 : Int32)) ((gi CC (hg - (1 : Int32))) + (gi BB (hg - (1 : Int32))))) (hg - (1 : Int32))))) (hg - (1 : Int32)))
      · refine OGets.step (fun _ => XS.ifNo X234.here hx rfl (hb hby d78m4_89) rfl ((if0 _ _).trans (tlt hc89_236).2.2.2)) ?_
        show OGets p e below _ (T234.setTop (mkF m 92 #[.val (.ref ao), .val (.int (hg - (1 : Int32)))] []))
        refine OGets.step (fun _ => XS.iconst X234.here hx rfl (hb hby d78m4_92)) ?_
        refine OGets.step (fun _ => XS.goto X234.here hx rfl (pc0 := 93) (pc' := 97) rfl (hb hby d78m4_93) (by decide) (by decide)) ?_
        refine OGets.retN X234 hx hlk (t := .boolean) Bd.returns (by simp) (hb hby d78m4_97) (Nat.le_of_ble_eq_true rfl) (Nat.le_of_ble_eq_true rfl) ?_
        have t1 : poC (poA CC BB (hg - (1 : Int32))) (hg - (1 : Int32)) = (si (si CC (hg - (1 : Int32)) ((gi CC (hg - (1 : Int32))) + (gi BB (hg - (1 : Int32))))) ((hg - (1 : Int32)) - (1 : Int32)) ((gi (si CC (hg - (1 : Int32)) ((gi CC (hg - (1 : Int32))) + (gi BB (hg - (1 : Int32))))) ((hg - (1 : Int32)) - (1 : Int32))) + (gi (si CC (hg - (1 : Int32)) ((gi CC (hg - (1 : Int32))) + (gi BB (hg - (1 : Int32))))) (hg - (1 : Int32))))) := if_pos hc63_228
        have t3 : poV (poA CC BB (hg - (1 : Int32))) (hg - (1 : Int32)) = (1 : Int32) := by unfold poV; rw [t1]; exact if_pos hc89_236
        have t2 : poB BB per (hg - (1 : Int32)) = (si BB ((hg - (1 : Int32)) - per) ((gi BB ((hg - (1 : Int32)) - per)) + (gi BB (hg - (1 : Int32))))) := if_neg hc39_209
        rw [e234]
        refine ⟨congrArg (fun z => some (Value.int z)) t3.symm, N233, ?_⟩
        rw [t1, t2]
        exact V233
      · refine OGets.step (fun _ => XS.ifYes X234.here hx rfl (pc0 := 89) (pc' := 96) rfl (hb hby d78m4_89) rfl ((if0 _ _).trans (flt hc89_236).2.2.2) (by decide) (by decide)) ?_
        show OGets p e below _ (T234.setTop (mkF m 96 #[.val (.ref ao), .val (.int (hg - (1 : Int32)))] []))
        refine OGets.step (fun _ => XS.iconst X234.here hx rfl (hb hby d78m4_96)) ?_
        refine OGets.retN X234 hx hlk (t := .boolean) Bd.returns (by simp) (hb hby d78m4_97) (Nat.le_of_ble_eq_true rfl) (Nat.le_of_ble_eq_true rfl) ?_
        have t1 : poC (poA CC BB (hg - (1 : Int32))) (hg - (1 : Int32)) = (si (si CC (hg - (1 : Int32)) ((gi CC (hg - (1 : Int32))) + (gi BB (hg - (1 : Int32))))) ((hg - (1 : Int32)) - (1 : Int32)) ((gi (si CC (hg - (1 : Int32)) ((gi CC (hg - (1 : Int32))) + (gi BB (hg - (1 : Int32))))) ((hg - (1 : Int32)) - (1 : Int32))) + (gi (si CC (hg - (1 : Int32)) ((gi CC (hg - (1 : Int32))) + (gi BB (hg - (1 : Int32))))) (hg - (1 : Int32))))) := if_pos hc63_228
        have t3 : poV (poA CC BB (hg - (1 : Int32))) (hg - (1 : Int32)) = (0 : Int32) := by unfold poV; rw [t1]; exact if_neg hc89_236
        have t2 : poB BB per (hg - (1 : Int32)) = (si BB ((hg - (1 : Int32)) - per) ((gi BB ((hg - (1 : Int32)) - per)) + (gi BB (hg - (1 : Int32))))) := if_neg hc39_209
        rw [e234]
        refine ⟨congrArg (fun z => some (Value.int z)) t3.symm, N233, ?_⟩
        rw [t1, t2]
        exact V233
    · refine OGets.step (fun _ => XS.ifYes X227.here hx rfl (pc0 := 63) (pc' := 83) rfl (hb hby d78m4_63) rfl ((if0 _ _).trans (flt hc63_228).2.2.2) (by decide) (by decide)) ?_
      show OGets p e below _ (T227.setTop (mkF m 83 #[.val (.ref ao), .val (.int (hg - (1 : Int32)))] []))
      refine OGets.step (fun _ => XS.aloadN X227.here hx rfl (hb hby d78m4_83) rfl rfl) ?_
      obtain ⟨T237, X237, e237, st237⟩ := getF X227 hx hZ hown (host := "") (Or.inl (hw _ (List.mem_of_getElem? (i := 16) rfl))) Via.refl e227 (V227.fld 0 rfl 2 rfl rfl) (g := (mkF m 84 #[.val (.ref ao), .val (.int (hg - (1 : Int32)))] [(.ref ao)])) rfl rfl (hb hby d78m4_84)
      refine OGets.step st237 ?_
      refine OGets.step (fun _ => XS.iloadN X237.here hx rfl (hb hby d78m4_87) rfl) ?_
      obtain ⟨cl238, Ar238, S238⟩ := V227.arr 1 rfl
      refine OGets.step (fun _ => X237.iaload hx (j := (hg - (1 : Int32))) (v := (.int (gi (si CC (hg - (1 : Int32)) ((gi CC (hg - (1 : Int32))) + (gi BB (hg - (1 : Int32))))) (hg - (1 : Int32))))) (by rw [e237]; exact Ar238.1) (State.isArrayOf_alike hZ.alike Ar238.2.1) Ar238.2.2 (own_sin (n := 5) S238 (by simp only [List.length_map, si_len, sj_len, List.length_replicate, hlC]) hh0) (own_sgetI (n := 5) S238 (by simp only [List.length_map, si_len, sj_len, List.length_replicate, hlC]) hh0) (g := (mkF m 88 #[.val (.ref ao), .val (.int (hg - (1 : Int32)))] [(.int (hg - (1 : Int32))), (.ref ac)])) rfl rfl (hb hby d78m4_88) _) ?_
      by_cases hc89_239 : (0 : Int32) < (gi (si CC (hg - (1 : Int32)) ((gi CC (hg - (1 : Int32))) + (gi BB (hg - (1 : Int32))))) (hg - (1 : Int32)))
      · refine OGets.step (fun _ => XS.ifNo X237.here hx rfl (hb hby d78m4_89) rfl ((if0 _ _).trans (tlt hc89_239).2.2.2)) ?_
        show OGets p e below _ (T237.setTop (mkF m 92 #[.val (.ref ao), .val (.int (hg - (1 : Int32)))] []))
        refine OGets.step (fun _ => XS.iconst X237.here hx rfl (hb hby d78m4_92)) ?_
        refine OGets.step (fun _ => XS.goto X237.here hx rfl (pc0 := 93) (pc' := 97) rfl (hb hby d78m4_93) (by decide) (by decide)) ?_
        refine OGets.retN X237 hx hlk (t := .boolean) Bd.returns (by simp) (hb hby d78m4_97) (Nat.le_of_ble_eq_true rfl) (Nat.le_of_ble_eq_true rfl) ?_
        have t1 : poC (poA CC BB (hg - (1 : Int32))) (hg - (1 : Int32)) = (si CC (hg - (1 : Int32)) ((gi CC (hg - (1 : Int32))) + (gi BB (hg - (1 : Int32))))) := if_neg hc63_228
        have t3 : poV (poA CC BB (hg - (1 : Int32))) (hg - (1 : Int32)) = (1 : Int32) := by unfold poV; rw [t1]; exact if_pos hc89_239
        have t2 : poB BB per (hg - (1 : Int32)) = (si BB ((hg - (1 : Int32)) - per) ((gi BB ((hg - (1 : Int32)) - per)) + (gi BB (hg - (1 : Int32))))) := if_neg hc39_209
        rw [e237]
        refine ⟨congrArg (fun z => some (Value.int z)) t3.symm, N227, ?_⟩
        rw [t1, t2]
        exact V227
      · refine OGets.step (fun _ => XS.ifYes X237.here hx rfl (pc0 := 89) (pc' := 96) rfl (hb hby d78m4_89) rfl ((if0 _ _).trans (flt hc89_239).2.2.2) (by decide) (by decide)) ?_
        show OGets p e below _ (T237.setTop (mkF m 96 #[.val (.ref ao), .val (.int (hg - (1 : Int32)))] []))
        refine OGets.step (fun _ => XS.iconst X237.here hx rfl (hb hby d78m4_96)) ?_
        refine OGets.retN X237 hx hlk (t := .boolean) Bd.returns (by simp) (hb hby d78m4_97) (Nat.le_of_ble_eq_true rfl) (Nat.le_of_ble_eq_true rfl) ?_
        have t1 : poC (poA CC BB (hg - (1 : Int32))) (hg - (1 : Int32)) = (si CC (hg - (1 : Int32)) ((gi CC (hg - (1 : Int32))) + (gi BB (hg - (1 : Int32))))) := if_neg hc63_228
        have t3 : poV (poA CC BB (hg - (1 : Int32))) (hg - (1 : Int32)) = (0 : Int32) := by unfold poV; rw [t1]; exact if_neg hc89_239
        have t2 : poB BB per (hg - (1 : Int32)) = (si BB ((hg - (1 : Int32)) - per) ((gi BB ((hg - (1 : Int32)) - per)) + (gi BB (hg - (1 : Int32))))) := if_neg hc39_209
        rw [e237]
        refine ⟨congrArg (fun z => some (Value.int z)) t3.symm, N227, ?_⟩
        rw [t1, t2]
        exact V227
theorem pn_4 : plainName "com/example/pelt/pelt/StackCounts$2" = true := by first | (simp [plainName, overriddenIn]; done) | decide +kernel
theorem d80m1_0 : decode prog_80_method_1_code 0 = .ok (.aload_n 0, 1) := by decide +kernel
theorem d80m1_1 : decode prog_80_method_1_code 1 = .ok (.aload_n 1, 1) := by decide +kernel
theorem d80m1_2 : decode prog_80_method_1_code 2 = .ok (.putfield 1, 3) := by decide +kernel
theorem d80m1_5 : decode prog_80_method_1_code 5 = .ok (.aload_n 0, 1) := by decide +kernel
theorem d80m1_6 : decode prog_80_method_1_code 6 = .ok (.aload_n 2, 1) := by decide +kernel
theorem d80m1_7 : decode prog_80_method_1_code 7 = .ok (.putfield 7, 3) := by decide +kernel
theorem d80m1_10 : decode prog_80_method_1_code 10 = .ok (.aload_n 0, 1) := by decide +kernel
theorem d80m1_11 : decode prog_80_method_1_code 11 = .ok (.invokespecial 11, 3) := by decide +kernel
theorem d80m1_14 : decode prog_80_method_1_code 14 = .ok (.return_, 1) := by decide +kernel
theorem ef_in2 (m : MethodId) (x0 : Addr) (x1 : Addr) (x2 : Addr) : entryFrame m #[(.ref x0), (.ref x1), (.ref x2)] 3 = mkF m 0 #[.val (.ref x0), .val (.ref x1), .val (.ref x2)] [] := by first | (simp [entryFrame, mkF, argsToLocals, Value.category]; done) | rfl
def Q_in2 (Z : State) (ax : Addr) (ao : Addr) (ast : Addr) (h0 : Heap) (n0 : Nat) (F : List (Addr × OObj)) (v : Option Value) (h : Heap) (L : List Loc) : Prop := v = none ∧ Fr n0 L ∧ OView Z n0 h (oX ax [(.ref ao), (.ref ast)] :: F)
set_option maxRecDepth 65536 in
set_option maxHeartbeats 40000000 in
theorem rm_in2 (l : Launch) (Z : State) (a0 : Array Value) (hw : ∀ d ∈ tables_1, d.before a0 Z = true) (ws : List Jvm.Cond) (ax : Addr) (ao : Addr) (ast : Addr) (h0 : Heap) (n0 : Nat) (F : List (Addr × OObj)) (Z0 : n0 ≤ h0.size) (V0 : OView Z n0 h0 (oX ax [.null, .null] :: F)) :
    MetFree l (⟨"com/example/pelt/pelt/StackCounts$2", "<init>", "(Lcom/example/pelt/pelt/StackCounts;Lcom/example/pelt/pelt/Strand;)V"⟩ : MethodName) (head1 (Jvm.Cond.code (⟨"com/example/pelt/pelt/StackCounts$2", "<init>", "(Lcom/example/pelt/pelt/StackCounts;Lcom/example/pelt/pelt/Strand;)V"⟩ : MethodName) prog_80_method_1_code 3 none :: ws) ({ frames := 1, cells := 0, slots := 0, locals := 12 } : Room)) (fun a_ U => a_ = #[(.ref ax), (.ref ao), (.ref ast)] ∧ Z.Warmed39 U.vm ∧ U.heap = h0) (fun _ _ _ _ _ => True) (fun _ U o U' => ∃ v L, o = .returned v ∧ Q_in2 Z ax ao ast h0 n0 F v U'.heap L ∧ FrameEnd U o U' L ({ frames := 1, cells := 0, slots := 0, locals := 12 } : Room).cells ({ frames := 1, cells := 0, slots := 0, locals := 12 } : Room).slots) := by
  refine MetFree.of_bodySF (plainFor_of_name pn_4) hisR ?_
  intro p e s m args below meth c s₁ Bd hml0 hP hK
  obtain ⟨rfl, hZ, hh⟩ := hP
  have hx := Bd.exec
  have hby := Bd.bytes
  have hlk : meth.locks = false := Bd.notSynchronized
  have hml : c.maxLocals = 3 := hml0
  have hown : s.vm.findClass "com/example/pelt/pelt/StackCounts$2" = some m.cls := findClass_of_methodNamed Bd.named
  have hnm := (name_of_methodNamed Bd.named Bd.method).1
  have X0 : Stand p l e ({ frames := 1, cells := 0, slots := 0, locals := 12 } : Room) s m #[(.ref ax), (.ref ao), (.ref ast)] below meth c s₁ [] 0 0 := Stand.of_body Bd
  have e0 : s₁.heap = h0 := by rw [← hh, Bd.state]; rfl
  have N0 := Fr.nil n0
  show OGets p e below (OLeaves s (Q_in2 Z ax ao ast h0 n0 F ) ({ frames := 1, cells := 0, slots := 0, locals := 12 } : Room).cells ({ frames := 1, cells := 0, slots := 0, locals := 12 } : Room).slots) _
  refine OGets.enter (ef_in2 m ax ao ast) ?_
  show OGets p e below _ (s₁.setTop (mkF m 0 #[.val (.ref ax), .val (.ref ao), .val (.ref ast)] []))
  refine OGets.step (fun _ => XS.aloadN X0.here hx rfl (hb hby d80m1_0) rfl rfl) ?_
  refine OGets.step (fun _ => XS.aloadN X0.here hx rfl (hb hby d80m1_1) rfl rfl) ?_
  obtain ⟨T240, h240, X240, e240, W240, st240⟩ := putF X0 hx hZ hown (host := "") (Or.inl (hw _ (List.mem_of_getElem? (i := 62) rfl))) Via.refl e0 (V0.fld 0 rfl 0 rfl rfl) (V0.exa 0 rfl) (Or.inr ⟨(hw _ (List.mem_of_getElem? (i := 63) rfl)), rfl, hnm⟩) (hw _ (List.mem_of_getElem? (i := 57) rfl)) (ty := (.object "com/example/pelt/pelt/StackCounts")) (by decide) rfl rfl (g := (mkF m 2 #[.val (.ref ax), .val (.ref ao), .val (.ref ast)] [(.ref ao), (.ref ax)])) rfl rfl (hb hby d80m1_2)
  have V240 : OView Z n0 h240 (oX ax [(.ref ao), .null] :: F) := V0.putF 0 rfl 0 rfl W240
  have N240 := Fr.snoc X240 N0 (V0.old 0 rfl)
  have Z240 : n0 ≤ h240.size := by rw [W240.size]; exact Z0
  refine OGets.step st240 ?_
  refine OGets.step (fun _ => XS.aloadN X240.here hx rfl (hb hby d80m1_5) rfl rfl) ?_
  refine OGets.step (fun _ => XS.aloadN X240.here hx rfl (hb hby d80m1_6) rfl rfl) ?_
  obtain ⟨T241, h241, X241, e241, W241, st241⟩ := putF X240 hx hZ hown (host := "") (Or.inl (hw _ (List.mem_of_getElem? (i := 64) rfl))) Via.refl e240 (V240.fld 0 rfl 1 rfl rfl) (V240.exa 0 rfl) (Or.inr ⟨(hw _ (List.mem_of_getElem? (i := 65) rfl)), rfl, hnm⟩) (hw _ (List.mem_of_getElem? (i := 57) rfl)) (ty := (.object "com/example/pelt/pelt/Strand")) (by decide) rfl rfl (g := (mkF m 7 #[.val (.ref ax), .val (.ref ao), .val (.ref ast)] [(.ref ast), (.ref ax)])) rfl rfl (hb hby d80m1_7)
  have V241 : OView Z n0 h241 (oX ax [(.ref ao), (.ref ast)] :: F) := V240.putF 0 rfl 1 rfl W241
  have N241 := Fr.snoc X241 N240 (V240.old 0 rfl)
  have Z241 : n0 ≤ h241.size := by rw [W241.size]; exact Z240
  refine OGets.step st241 ?_
  refine OGets.step (fun _ => XS.aloadN X241.here hx rfl (hb hby d80m1_10) rfl rfl) ?_
  obtain ⟨T242, X242, e242, st242⟩ := initO X241 hx hZ hown (hw _ (List.mem_of_getElem? (i := 66) rfl)) (hw _ (List.mem_of_getElem? (i := 9) rfl)) (hw _ (List.mem_of_getElem? (i := 10) rfl)) e241 (g := (mkF m 11 #[.val (.ref ax), .val (.ref ao), .val (.ref ast)] [(.ref ax)])) rfl (by rw [hml]; rfl) rfl (hb hby d80m1_11) (by decide) (W := 0) (by show 2 * 0 + _ ≤ _; exact Nat.le_of_eq rfl) (by decide)
  refine OGets.step st242 ?_
  refine OGets.retV X242 hx hlk Bd.returns (hb hby d80m1_14) (Nat.le_of_ble_eq_true rfl) (Nat.le_of_ble_eq_true rfl) ?_
  rw [e242]
  exact ⟨rfl, N241, V241⟩
def rgF (C : List Int32) (lo hi : Int32) : List Int32 := if (0 : Int32) < lo then si (si C hi (gi C hi + 1)) (lo - 1) (gi (si C hi (gi C hi + 1)) (lo - 1) - 1) else si C hi (gi C hi + 1)
theorem rgF_len (C : List Int32) (lo hi : Int32) : (rgF C lo hi).length = C.length := by unfold rgF; split <;> simp [si_len]
theorem d80m2_0 : decode prog_80_method_2_code 0 = .ok (.aload_n 0, 1) := by decide +kernel
theorem d80m2_1 : decode prog_80_method_2_code 1 = .ok (.getfield 1, 3) := by decide +kernel
theorem d80m2_4 : decode prog_80_method_2_code 4 = .ok (.getfield 17, 3) := by decide +kernel
theorem d80m2_7 : decode prog_80_method_2_code 7 = .ok (.iload_n 2, 1) := by decide +kernel
theorem d80m2_8 : decode prog_80_method_2_code 8 = .ok (.dup2, 1) := by decide +kernel
theorem d80m2_9 : decode prog_80_method_2_code 9 = .ok (.iaload, 1) := by decide +kernel
theorem d80m2_10 : decode prog_80_method_2_code 10 = .ok (.iconst 1, 1) := by decide +kernel
theorem d80m2_11 : decode prog_80_method_2_code 11 = .ok (.iadd, 1) := by decide +kernel
theorem d80m2_12 : decode prog_80_method_2_code 12 = .ok (.iastore, 1) := by decide +kernel
theorem d80m2_13 : decode prog_80_method_2_code 13 = .ok (.iload_n 1, 1) := by decide +kernel
theorem d80m2_14 : decode prog_80_method_2_code 14 = .ok (.ifCond .le 18, 3) := by decide +kernel
theorem d80m2_17 : decode prog_80_method_2_code 17 = .ok (.aload_n 0, 1) := by decide +kernel
theorem d80m2_18 : decode prog_80_method_2_code 18 = .ok (.getfield 1, 3) := by decide +kernel
theorem d80m2_21 : decode prog_80_method_2_code 21 = .ok (.getfield 17, 3) := by decide +kernel
theorem d80m2_24 : decode prog_80_method_2_code 24 = .ok (.iload_n 1, 1) := by decide +kernel
theorem d80m2_25 : decode prog_80_method_2_code 25 = .ok (.iconst 1, 1) := by decide +kernel
theorem d80m2_26 : decode prog_80_method_2_code 26 = .ok (.isub, 1) := by decide +kernel
theorem d80m2_27 : decode prog_80_method_2_code 27 = .ok (.dup2, 1) := by decide +kernel
theorem d80m2_28 : decode prog_80_method_2_code 28 = .ok (.iaload, 1) := by decide +kernel
theorem d80m2_29 : decode prog_80_method_2_code 29 = .ok (.iconst 1, 1) := by decide +kernel
theorem d80m2_30 : decode prog_80_method_2_code 30 = .ok (.isub, 1) := by decide +kernel
theorem d80m2_31 : decode prog_80_method_2_code 31 = .ok (.iastore, 1) := by decide +kernel
theorem d80m2_32 : decode prog_80_method_2_code 32 = .ok (.lconst 0, 1) := by decide +kernel
theorem d80m2_33 : decode prog_80_method_2_code 33 = .ok (.lreturn, 1) := by decide +kernel
theorem ef_rg (m : MethodId) (x0 : Addr) (x1 : Int32) (x2 : Int32) : entryFrame m #[(.ref x0), (.int x1), (.int x2)] 3 = mkF m 0 #[.val (.ref x0), .val (.int x1), .val (.int x2)] [] := by first | (simp [entryFrame, mkF, argsToLocals, Value.category]; done) | rfl
def Q_rg (Z : State) (ax : Addr) (ao : Addr) (ast : Addr) (au : Addr) (ac : Addr) (vb : Value) (vy : Value) (per : Int32) (hg : Int32) (lo : Int32) (hi : Int32) (CC : List Int32) (h0 : Heap) (n0 : Nat) (F : List (Addr × OObj)) (v : Option Value) (h : Heap) (L : List Loc) : Prop := v = some (.long 0) ∧ Fr n0 L ∧ OView Z n0 h (oX ax [(.ref ao), (.ref ast)] :: oC ao [(.int per), (.ref au), (.ref ac), vb, vy, (.int hg)] :: oA ac (rgF CC lo hi) :: F)
set_option maxRecDepth 65536 in
set_option maxHeartbeats 40000000 in
theorem rm_rg (l : Launch) (Z : State) (a0 : Array Value) (hw : ∀ d ∈ tables_1, d.before a0 Z = true) (ws : List Jvm.Cond) (ax : Addr) (ao : Addr) (ast : Addr) (au : Addr) (ac : Addr) (vb : Value) (vy : Value) (per : Int32) (hg : Int32) (lo : Int32) (hi : Int32) (CC : List Int32) (h0 : Heap) (n0 : Nat) (F : List (Addr × OObj)) (Z0 : n0 ≤ h0.size) (hlC : CC.length = 5) (hi1 : inb 5 hi) (hi2 : (0 : Int32) < lo → inb 5 (lo - (1 : Int32))) (V0 : OView Z n0 h0 (oX ax [(.ref ao), (.ref ast)] :: oC ao [(.int per), (.ref au), (.ref ac), vb, vy, (.int hg)] :: oA ac CC :: F)) :
    MetFree l (⟨"com/example/pelt/pelt/StackCounts$2", "range", "(II)J"⟩ : MethodName) (head1 (Jvm.Cond.code (⟨"com/example/pelt/pelt/StackCounts$2", "range", "(II)J"⟩ : MethodName) prog_80_method_2_code 3 (some .long) :: ws) ({ frames := 0, cells := 0, slots := 0, locals := 0 } : Room)) (fun a_ U => a_ = #[(.ref ax), (.int lo), (.int hi)] ∧ Z.Warmed39 U.vm ∧ U.heap = h0) (fun _ _ _ _ _ => True) (fun _ U o U' => ∃ v L, o = .returned v ∧ Q_rg Z ax ao ast au ac vb vy per hg lo hi CC h0 n0 F v U'.heap L ∧ FrameEnd U o U' L ({ frames := 0, cells := 0, slots := 0, locals := 0 } : Room).cells ({ frames := 0, cells := 0, slots := 0, locals := 0 } : Room).slots) := by
  refine MetFree.of_bodySF (plainFor_of_name pn_4) hisR ?_
  intro p e s m args below meth c s₁ Bd hml0 hP hK
  obtain ⟨rfl, hZ, hh⟩ := hP
  have hx := Bd.exec
  have hby := Bd.bytes
  have hlk : meth.locks = false := Bd.notSynchronized
  have hml : c.maxLocals = 3 := hml0
  have hown : s.vm.findClass "com/example/pelt/pelt/StackCounts$2" = some m.cls := findClass_of_methodNamed Bd.named
  have hnm := (name_of_methodNamed Bd.named Bd.method).1
  have X0 : Stand p l e ({ frames := 0, cells := 0, slots := 0, locals := 0 } : Room) s m #[(.ref ax), (.int lo), (.int hi)] below meth c s₁ [] 0 0 := Stand.of_body Bd
  have e0 : s₁.heap = h0 := by rw [← hh, Bd.state]; rfl
  have N0 := Fr.nil n0
  show OGets p e below (OLeaves s (Q_rg Z ax ao ast au ac vb vy per hg lo hi CC h0 n0 F ) ({ frames := 0, cells := 0, slots := 0, locals := 0 } : Room).cells ({ frames := 0, cells := 0, slots := 0, locals := 0 } : Room).slots) _
  refine OGets.enter (ef_rg m ax lo hi) ?_
  show OGets p e below _ (s₁.setTop (mkF m 0 #[.val (.ref ax), .val (.int lo), .val (.int hi)] []))
  refine OGets.step (fun _ => XS.aloadN X0.here hx rfl (hb hby d80m2_0) rfl rfl) ?_
  obtain ⟨T243, X243, e243, st243⟩ := getF X0 hx hZ hown (host := "") (Or.inl (hw _ (List.mem_of_getElem? (i := 62) rfl))) Via.refl e0 (V0.fld 0 rfl 0 rfl rfl) (g := (mkF m 1 #[.val (.ref ax), .val (.int lo), .val (.int hi)] [(.ref ax)])) rfl rfl (hb hby d80m2_1)
  refine OGets.step st243 ?_
  obtain ⟨T244, X244, e244, st244⟩ := getF X243 hx hZ hown (Or.inr (hw _ (List.mem_of_getElem? (i := 99) rfl))) Via.refl e243 (V0.fld 1 rfl 2 rfl rfl) (g := (mkF m 4 #[.val (.ref ax), .val (.int lo), .val (.int hi)] [(.ref ao)])) rfl rfl (hb hby d80m2_4)
  refine OGets.step st244 ?_
  refine OGets.step (fun _ => XS.iloadN X244.here hx rfl (hb hby d80m2_7) rfl) ?_
  refine OGets.step (U' := T244.setTop (mkF m 9 #[.val (.ref ax), .val (.int lo), .val (.int hi)] [(.int hi), (.ref ac), (.int hi), (.ref ac)])) (fun t kt => ?_) ?_
  · jvm_step X244.here [X244.here.top, hx, (hb hby d80m2_8), Value.category]
    exact kt
  obtain ⟨cl245, Ar245, S245⟩ := V0.arr 2 rfl
  refine OGets.step (fun _ => X244.iaload hx (j := hi) (v := (.int (gi CC hi))) (by rw [e244]; exact Ar245.1) (State.isArrayOf_alike hZ.alike Ar245.2.1) Ar245.2.2 (own_sin (n := 5) S245 (by simp only [List.length_map, si_len, sj_len, List.length_replicate, hlC]) hi1) (own_sgetI (n := 5) S245 (by simp only [List.length_map, si_len, sj_len, List.length_replicate, hlC]) hi1) (g := (mkF m 9 #[.val (.ref ax), .val (.int lo), .val (.int hi)] [(.int hi), (.ref ac), (.int hi), (.ref ac)])) rfl rfl (hb hby d80m2_9) _) ?_
  refine OGets.step (fun _ => XS.iconst X244.here hx rfl (hb hby d80m2_10)) ?_
  refine OGets.step (fun _ => XS.iadd X244.here hx rfl (hb hby d80m2_11) rfl) ?_
  obtain ⟨cl246, Ar246, S246⟩ := V0.arr 2 rfl
  obtain ⟨T246, h246, X246, e246, W246, st246⟩ := stI X244 hx hZ e244 Ar246 (j := hi) (own_sin (n := 5) S246 (by simp only [List.length_map, si_len, sj_len, List.length_replicate, hlC]) hi1) (g := (mkF m 12 #[.val (.ref ax), .val (.int lo), .val (.int hi)] [(.int ((gi CC hi) + (1 : Int32))), (.int hi), (.ref ac)])) rfl rfl (hb hby d80m2_12)
  have V246 : OView Z n0 h246 (oX ax [(.ref ao), (.ref ast)] :: oC ao [(.int per), (.ref au), (.ref ac), vb, vy, (.int hg)] :: oA ac (si CC hi ((gi CC hi) + (1 : Int32))) :: F) := V0.putI 2 rfl W246
  have N246 := Fr.snoc X246 N0 (V0.old 2 rfl)
  have Z246 : n0 ≤ h246.size := by rw [W246.size]; exact Z0
  refine OGets.step st246 ?_
  refine OGets.step (fun _ => XS.iloadN X246.here hx rfl (hb hby d80m2_13) rfl) ?_
  by_cases hc14_247 : (0 : Int32) < lo
  · refine OGets.step (fun _ => XS.ifNo X246.here hx rfl (hb hby d80m2_14) rfl ((if0 _ _).trans (tlt hc14_247).2.2.2)) ?_
    show OGets p e below _ (T246.setTop (mkF m 17 #[.val (.ref ax), .val (.int lo), .val (.int hi)] []))
    refine OGets.step (fun _ => XS.aloadN X246.here hx rfl (hb hby d80m2_17) rfl rfl) ?_
    obtain ⟨T248, X248, e248, st248⟩ := getF X246 hx hZ hown (host := "") (Or.inl (hw _ (List.mem_of_getElem? (i := 62) rfl))) Via.refl e246 (V246.fld 0 rfl 0 rfl rfl) (g := (mkF m 18 #[.val (.ref ax), .val (.int lo), .val (.int hi)] [(.ref ax)])) rfl rfl (hb hby d80m2_18)
    refine OGets.step st248 ?_
    obtain ⟨T249, X249, e249, st249⟩ := getF X248 hx hZ hown (Or.inr (hw _ (List.mem_of_getElem? (i := 99) rfl))) Via.refl e248 (V246.fld 1 rfl 2 rfl rfl) (g := (mkF m 21 #[.val (.ref ax), .val (.int lo), .val (.int hi)] [(.ref ao)])) rfl rfl (hb hby d80m2_21)
    refine OGets.step st249 ?_
    refine OGets.step (fun _ => XS.iloadN X249.here hx rfl (hb hby d80m2_24) rfl) ?_
    refine OGets.step (fun _ => XS.iconst X249.here hx rfl (hb hby d80m2_25)) ?_
    refine OGets.step (fun _ => XS.isub X249.here hx rfl (hb hby d80m2_26) rfl) ?_
    refine OGets.step (U' := T249.setTop (mkF m 28 #[.val (.ref ax), .val (.int lo), .val (.int hi)] [(.int (lo - (1 : Int32))), (.ref ac), (.int (lo - (1 : Int32))), (.ref ac)])) (fun t kt => ?_) ?_
    · jvm_step X249.here [X249.here.top, hx, (hb hby d80m2_27), Value.category]
      exact kt
    obtain ⟨cl250, Ar250, S250⟩ := V246.arr 2 rfl
    refine OGets.step (fun _ => X249.iaload hx (j := (lo - (1 : Int32))) (v := (.int (gi (si CC hi ((gi CC hi) + (1 : Int32))) (lo - (1 : Int32))))) (by rw [e249]; exact Ar250.1) (State.isArrayOf_alike hZ.alike Ar250.2.1) Ar250.2.2 (own_sin (n := 5) S250 (by simp only [List.length_map, si_len, sj_len, List.length_replicate, hlC]) (hi2 hc14_247)) (own_sgetI (n := 5) S250 (by simp only [List.length_map, si_len, sj_len, List.length_replicate, hlC]) (hi2 hc14_247)) (g := (mkF m 28 #[.val (.ref ax), .val (.int lo), .val (.int hi)] [(.int (lo - (1 : Int32))), (.ref ac), (.int (lo - (1 : Int32))), (.ref ac)])) rfl rfl (hb hby d80m2_28) _) ?_
    refine OGets.step (fun _ => XS.iconst X249.here hx rfl (hb hby d80m2_29)) ?_
    refine OGets.step (fun _ => XS.isub X249.here hx rfl (hb hby d80m2_30) rfl) ?_
    obtain ⟨cl251, Ar251, S251⟩ := V246.arr 2 rfl
    obtain ⟨T251, h251, X251, e251, W251, st251⟩ := stI X249 hx hZ e249 Ar251 (j := (lo - (1 : Int32))) (own_sin (n := 5) S251 (by simp only [List.length_map, si_len, sj_len, List.length_replicate, hlC]) (hi2 hc14_247)) (g := (mkF m 31 #[.val (.ref ax), .val (.int lo), .val (.int hi)] [(.int ((gi (si CC hi ((gi CC hi) + (1 : Int32))) (lo - (1 : Int32))) - (1 : Int32))), (.int (lo - (1 : Int32))), (.ref ac)])) rfl rfl (hb hby d80m2_31)
    have V251 : OView Z n0 h251 (oX ax [(.ref ao), (.ref ast)] :: oC ao [(.int per), (.ref au), (.ref ac), vb, vy, (.int hg)] :: oA ac (si (si CC hi ((gi CC hi) + (1 : Int32))) (lo - (1 : Int32)) ((gi (si CC hi ((gi CC hi) + (1 : Int32))) (lo - (1 : Int32))) - (1 : Int32))) :: F) := V246.putI 2 rfl W251
    have N251 := Fr.snoc X251 N246 (V246.old 2 rfl)
    have Z251 : n0 ≤ h251.size := by rw [W251.size]; exact Z246
    refine OGets.step st251 ?_
    refine OGets.step (fun _ => XS.lconst X251.here hx rfl (hb hby d80m2_32)) ?_
    refine OGets.retJ X251 hx hlk Bd.returns (hb hby d80m2_33) (Nat.le_of_ble_eq_true rfl) (Nat.le_of_ble_eq_true rfl) ?_
    have t1 : rgF CC lo hi = (si (si CC hi ((gi CC hi) + (1 : Int32))) (lo - (1 : Int32)) ((gi (si CC hi ((gi CC hi) + (1 : Int32))) (lo - (1 : Int32))) - (1 : Int32))) := if_pos hc14_247
    rw [e251]
    refine ⟨rfl, N251, ?_⟩
    rw [t1]
    exact V251
  · refine OGets.step (fun _ => XS.ifYes X246.here hx rfl (pc0 := 14) (pc' := 32) rfl (hb hby d80m2_14) rfl ((if0 _ _).trans (flt hc14_247).2.2.2) (by decide) (by decide)) ?_
    show OGets p e below _ (T246.setTop (mkF m 32 #[.val (.ref ax), .val (.int lo), .val (.int hi)] []))
    refine OGets.step (fun _ => XS.lconst X246.here hx rfl (hb hby d80m2_32)) ?_
    refine OGets.retJ X246 hx hlk Bd.returns (hb hby d80m2_33) (Nat.le_of_ble_eq_true rfl) (Nat.le_of_ble_eq_true rfl) ?_
    have t1 : rgF CC lo hi = (si CC hi ((gi CC hi) + (1 : Int32))) := if_neg hc14_247
    rw [e246]
    refine ⟨rfl, N246, ?_⟩
    rw [t1]
    exact V246
def blF (per top cnt : Int32) : Int64 := top.toInt64 - cnt.toInt64 * per.toInt64
def mkV (B : List Int32) (per top cnt mk : Int32) : List Int32 := if blF per top cnt < 0 then si B top (gi B top + mk) else si (si B top (gi B top + mk)) (blF per top cnt).toInt32 (gi (si B top (gi B top + mk)) (blF per top cnt).toInt32 - mk)
theorem mkV_len (B : List Int32) (per top cnt mk : Int32) : (mkV B per top cnt mk).length = B.length := by unfold mkV; split <;> simp [si_len]
theorem d78m7_0 : decode prog_78_method_7_code 0 = .ok (.iload_n 1, 1) := by decide +kernel
theorem d78m7_1 : decode prog_78_method_7_code 1 = .ok (.i2l, 1) := by decide +kernel
theorem d78m7_2 : decode prog_78_method_7_code 2 = .ok (.iload_n 2, 1) := by decide +kernel
theorem d78m7_3 : decode prog_78_method_7_code 3 = .ok (.i2l, 1) := by decide +kernel
theorem d78m7_4 : decode prog_78_method_7_code 4 = .ok (.aload_n 0, 1) := by decide +kernel
theorem d78m7_5 : decode prog_78_method_7_code 5 = .ok (.getfield 7, 3) := by decide +kernel
theorem d78m7_8 : decode prog_78_method_7_code 8 = .ok (.i2l, 1) := by decide +kernel
theorem d78m7_9 : decode prog_78_method_7_code 9 = .ok (.lmul, 1) := by decide +kernel
theorem d78m7_10 : decode prog_78_method_7_code 10 = .ok (.lsub, 1) := by decide +kernel
theorem d78m7_11 : decode prog_78_method_7_code 11 = .ok (.lstore 4, 2) := by decide +kernel
theorem d78m7_13 : decode prog_78_method_7_code 13 = .ok (.aload_n 0, 1) := by decide +kernel
theorem d78m7_14 : decode prog_78_method_7_code 14 = .ok (.getfield 20, 3) := by decide +kernel
theorem d78m7_17 : decode prog_78_method_7_code 17 = .ok (.iload_n 1, 1) := by decide +kernel
theorem d78m7_18 : decode prog_78_method_7_code 18 = .ok (.dup2, 1) := by decide +kernel
theorem d78m7_19 : decode prog_78_method_7_code 19 = .ok (.iaload, 1) := by decide +kernel
theorem d78m7_20 : decode prog_78_method_7_code 20 = .ok (.iload_n 3, 1) := by decide +kernel
theorem d78m7_21 : decode prog_78_method_7_code 21 = .ok (.iadd, 1) := by decide +kernel
theorem d78m7_22 : decode prog_78_method_7_code 22 = .ok (.iastore, 1) := by decide +kernel
theorem d78m7_23 : decode prog_78_method_7_code 23 = .ok (.lload 4, 2) := by decide +kernel
theorem d78m7_25 : decode prog_78_method_7_code 25 = .ok (.lconst 0, 1) := by decide +kernel
theorem d78m7_26 : decode prog_78_method_7_code 26 = .ok (.lcmp, 1) := by decide +kernel
theorem d78m7_27 : decode prog_78_method_7_code 27 = .ok (.ifCond .lt 15, 3) := by decide +kernel
theorem d78m7_42 : decode prog_78_method_7_code 42 = .ok (.return_, 1) := by decide +kernel
theorem d78m7_30 : decode prog_78_method_7_code 30 = .ok (.aload_n 0, 1) := by decide +kernel
theorem d78m7_31 : decode prog_78_method_7_code 31 = .ok (.getfield 20, 3) := by decide +kernel
theorem d78m7_34 : decode prog_78_method_7_code 34 = .ok (.lload 4, 2) := by decide +kernel
theorem d78m7_36 : decode prog_78_method_7_code 36 = .ok (.l2i, 1) := by decide +kernel
theorem d78m7_37 : decode prog_78_method_7_code 37 = .ok (.dup2, 1) := by decide +kernel
theorem d78m7_38 : decode prog_78_method_7_code 38 = .ok (.iaload, 1) := by decide +kernel
theorem d78m7_39 : decode prog_78_method_7_code 39 = .ok (.iload_n 3, 1) := by decide +kernel
theorem d78m7_40 : decode prog_78_method_7_code 40 = .ok (.isub, 1) := by decide +kernel
theorem d78m7_41 : decode prog_78_method_7_code 41 = .ok (.iastore, 1) := by decide +kernel
theorem ef_mk (m : MethodId) (x0 : Addr) (x1 : Int32) (x2 : Int32) (x3 : Int32) : entryFrame m #[(.ref x0), (.int x1), (.int x2), (.int x3)] 6 = mkF m 0 #[.val (.ref x0), .val (.int x1), .val (.int x2), .val (.int x3), .unset, .unset] [] := by first | (simp [entryFrame, mkF, argsToLocals, Value.category]; done) | rfl
def Q_mk (Z : State) (ao : Addr) (au : Addr) (ac : Addr) (ab : Addr) (ay : Addr) (per : Int32) (hg : Int32) (top : Int32) (cnt : Int32) (mk : Int32) (BB : List Int32) (h0 : Heap) (n0 : Nat) (F : List (Addr × OObj)) (v : Option Value) (h : Heap) (L : List Loc) : Prop := v = none ∧ Fr n0 L ∧ OView Z n0 h (oC ao [(.int per), (.ref au), (.ref ac), (.ref ab), (.ref ay), (.int hg)] :: oA ab (mkV BB per top cnt mk) :: F)
set_option maxRecDepth 65536 in
set_option maxHeartbeats 40000000 in
theorem rm_mk (l : Launch) (Z : State) (a0 : Array Value) (hw : ∀ d ∈ tables_1, d.before a0 Z = true) (ws : List Jvm.Cond) (ao : Addr) (au : Addr) (ac : Addr) (ab : Addr) (ay : Addr) (per : Int32) (hg : Int32) (top : Int32) (cnt : Int32) (mk : Int32) (BB : List Int32) (h0 : Heap) (n0 : Nat) (F : List (Addr × OObj)) (Z0 : n0 ≤ h0.size) (hlB : BB.length = 5) (hi1 : inb 5 top) (hi2 : ¬ (blF per top cnt) < (0 : Int64) → inb 5 ((blF per top cnt).toInt32)) (V0 : OView Z n0 h0 (oC ao [(.int per), (.ref au), (.ref ac), (.ref ab), (.ref ay), (.int hg)] :: oA ab BB :: F)) :
    MetFree l (⟨"com/example/pelt/pelt/StackCounts", "mark", "(III)V"⟩ : MethodName) (head1 (Jvm.Cond.code (⟨"com/example/pelt/pelt/StackCounts", "mark", "(III)V"⟩ : MethodName) prog_78_method_7_code 6 none :: ws) ({ frames := 0, cells := 0, slots := 0, locals := 0 } : Room)) (fun a_ U => a_ = #[(.ref ao), (.int top), (.int cnt), (.int mk)] ∧ Z.Warmed39 U.vm ∧ U.heap = h0) (fun _ _ _ _ _ => True) (fun _ U o U' => ∃ v L, o = .returned v ∧ Q_mk Z ao au ac ab ay per hg top cnt mk BB h0 n0 F v U'.heap L ∧ FrameEnd U o U' L ({ frames := 0, cells := 0, slots := 0, locals := 0 } : Room).cells ({ frames := 0, cells := 0, slots := 0, locals := 0 } : Room).slots) := by
  refine MetFree.of_bodySF (plainFor_of_name pn_3) hisR ?_
  intro p e s m args below meth c s₁ Bd hml0 hP hK
  obtain ⟨rfl, hZ, hh⟩ := hP
  have hx := Bd.exec
  have hby := Bd.bytes
  have hlk : meth.locks = false := Bd.notSynchronized
  have hml : c.maxLocals = 6 := hml0
  have hown : s.vm.findClass "com/example/pelt/pelt/StackCounts" = some m.cls := findClass_of_methodNamed Bd.named
  have hnm := (name_of_methodNamed Bd.named Bd.method).1
  have X0 : Stand p l e ({ frames := 0, cells := 0, slots := 0, locals := 0 } : Room) s m #[(.ref ao), (.int top), (.int cnt), (.int mk)] below meth c s₁ [] 0 0 := Stand.of_body Bd
  have e0 : s₁.heap = h0 := by rw [← hh, Bd.state]; rfl
  have N0 := Fr.nil n0
  show OGets p e below (OLeaves s (Q_mk Z ao au ac ab ay per hg top cnt mk BB h0 n0 F ) ({ frames := 0, cells := 0, slots := 0, locals := 0 } : Room).cells ({ frames := 0, cells := 0, slots := 0, locals := 0 } : Room).slots) _
  refine OGets.enter (ef_mk m ao top cnt mk) ?_
  show OGets p e below _ (s₁.setTop (mkF m 0 #[.val (.ref ao), .val (.int top), .val (.int cnt), .val (.int mk), .unset, .unset] []))
  refine OGets.step (fun _ => XS.iloadN X0.here hx rfl (hb hby d78m7_0) rfl) ?_
  refine OGets.step (fun _ => XS.i2l X0.here hx rfl (hb hby d78m7_1) rfl) ?_
  refine OGets.step (fun _ => XS.iloadN X0.here hx rfl (hb hby d78m7_2) rfl) ?_
  refine OGets.step (fun _ => XS.i2l X0.here hx rfl (hb hby d78m7_3) rfl) ?_
  refine OGets.step (fun _ => XS.aloadN X0.here hx rfl (hb hby d78m7_4) rfl rfl) ?_
  obtain ⟨T252, X252, e252, st252⟩ := getF X0 hx hZ hown (host := "") (Or.inl (hw _ (List.mem_of_getElem? (i := 11) rfl))) Via.refl e0 (V0.fld 0 rfl 0 rfl rfl) (g := (mkF m 5 #[.val (.ref ao), .val (.int top), .val (.int cnt), .val (.int mk), .unset, .unset] [(.ref ao), (.long (cnt.toInt64)), (.long (top.toInt64))])) rfl rfl (hb hby d78m7_5)
  refine OGets.step st252 ?_
  refine OGets.step (fun _ => XS.i2l X252.here hx rfl (hb hby d78m7_8) rfl) ?_
  refine OGets.step (fun _ => XS.lmul X252.here hx rfl (hb hby d78m7_9) rfl) ?_
  refine OGets.step (fun _ => XS.lsub X252.here hx rfl (hb hby d78m7_10) rfl) ?_
  show OGets p e below _ (T252.setTop (mkF m 11 #[.val (.ref ao), .val (.int top), .val (.int cnt), .val (.int mk), .unset, .unset] [(.long (blF per top cnt))]))
  refine OGets.step (fun _ => XS.lstore X252.here hx rfl (hb hby d78m7_11) rfl (l' := #[.val (.ref ao), .val (.int top), .val (.int cnt), .val (.int mk), .val (.long (blF per top cnt)), .second]) rfl) ?_
  refine OGets.step (fun _ => XS.aloadN X252.here hx rfl (hb hby d78m7_13) rfl rfl) ?_
  obtain ⟨T253, X253, e253, st253⟩ := getF X252 hx hZ hown (host := "") (Or.inl (hw _ (List.mem_of_getElem? (i := 18) rfl))) Via.refl e252 (V0.fld 0 rfl 3 rfl rfl) (g := (mkF m 14 #[.val (.ref ao), .val (.int top), .val (.int cnt), .val (.int mk), .val (.long (blF per top cnt)), .second] [(.ref ao)])) rfl rfl (hb hby d78m7_14)
  refine OGets.step st253 ?_
  refine OGets.step (fun _ => XS.iloadN X253.here hx rfl (hb hby d78m7_17) rfl) ?_
  refine OGets.step (U' := T253.setTop (mkF m 19 #[.val (.ref ao), .val (.int top), .val (.int cnt), .val (.int mk), .val (.long (blF per top cnt)), .second] [(.int top), (.ref ab), (.int top), (.ref ab)])) (fun t kt => ?_) ?_
  · jvm_step X253.here [X253.here.top, hx, (hb hby d78m7_18), Value.category]
    exact kt
  obtain ⟨cl254, Ar254, S254⟩ := V0.arr 1 rfl
  refine OGets.step (fun _ => X253.iaload hx (j := top) (v := (.int (gi BB top))) (by rw [e253]; exact Ar254.1) (State.isArrayOf_alike hZ.alike Ar254.2.1) Ar254.2.2 (own_sin (n := 5) S254 (by simp only [List.length_map, si_len, sj_len, List.length_replicate, hlB]) hi1) (own_sgetI (n := 5) S254 (by simp only [List.length_map, si_len, sj_len, List.length_replicate, hlB]) hi1) (g := (mkF m 19 #[.val (.ref ao), .val (.int top), .val (.int cnt), .val (.int mk), .val (.long (blF per top cnt)), .second] [(.int top), (.ref ab), (.int top), (.ref ab)])) rfl rfl (hb hby d78m7_19) _) ?_
  refine OGets.step (fun _ => XS.iloadN X253.here hx rfl (hb hby d78m7_20) rfl) ?_
  refine OGets.step (fun _ => XS.iadd X253.here hx rfl (hb hby d78m7_21) rfl) ?_
  obtain ⟨cl255, Ar255, S255⟩ := V0.arr 1 rfl
  obtain ⟨T255, h255, X255, e255, W255, st255⟩ := stI X253 hx hZ e253 Ar255 (j := top) (own_sin (n := 5) S255 (by simp only [List.length_map, si_len, sj_len, List.length_replicate, hlB]) hi1) (g := (mkF m 22 #[.val (.ref ao), .val (.int top), .val (.int cnt), .val (.int mk), .val (.long (blF per top cnt)), .second] [(.int ((gi BB top) + mk)), (.int top), (.ref ab)])) rfl rfl (hb hby d78m7_22)
  have V255 : OView Z n0 h255 (oC ao [(.int per), (.ref au), (.ref ac), (.ref ab), (.ref ay), (.int hg)] :: oA ab (si BB top ((gi BB top) + mk)) :: F) := V0.putI 1 rfl W255
  have N255 := Fr.snoc X255 N0 (V0.old 1 rfl)
  have Z255 : n0 ≤ h255.size := by rw [W255.size]; exact Z0
  refine OGets.step st255 ?_
  refine OGets.step (fun _ => XS.lload X255.here hx rfl (hb hby d78m7_23) rfl) ?_
  refine OGets.step (fun _ => XS.lconst X255.here hx rfl (hb hby d78m7_25)) ?_
  refine OGets.step (fun _ => XS.lcmp X255.here hx rfl (hb hby d78m7_26) rfl) ?_
  by_cases hc27_256 : (blF per top cnt) < (0 : Int64)
  · refine OGets.step (fun _ => XS.ifYes X255.here hx rfl (pc0 := 27) (pc' := 42) rfl (hb hby d78m7_27) rfl ((if0 _ _).trans (tlt ((lw_lt _ _).mpr hc27_256)).1) (by decide) (by decide)) ?_
    show OGets p e below _ (T255.setTop (mkF m 42 #[.val (.ref ao), .val (.int top), .val (.int cnt), .val (.int mk), .val (.long (blF per top cnt)), .second] []))
    refine OGets.retV X255 hx hlk Bd.returns (hb hby d78m7_42) (Nat.le_of_ble_eq_true rfl) (Nat.le_of_ble_eq_true rfl) ?_
    have t1 : mkV BB per top cnt mk = (si BB top ((gi BB top) + mk)) := if_pos hc27_256
    rw [e255]
    refine ⟨rfl, N255, ?_⟩
    rw [t1]
    exact V255
  · refine OGets.step (fun _ => XS.ifNo X255.here hx rfl (hb hby d78m7_27) rfl ((if0 _ _).trans (flt (fun q => hc27_256 ((lw_lt _ _).mp q))).1)) ?_
    show OGets p e below _ (T255.setTop (mkF m 30 #[.val (.ref ao), .val (.int top), .val (.int cnt), .val (.int mk), .val (.long (blF per top cnt)), .second] []))
    refine OGets.step (fun _ => XS.aloadN X255.here hx rfl (hb hby d78m7_30) rfl rfl) ?_
    obtain ⟨T257, X257, e257, st257⟩ := getF X255 hx hZ hown (host := "") (Or.inl (hw _ (List.mem_of_getElem? (i := 18) rfl))) Via.refl e255 (V255.fld 0 rfl 3 rfl rfl) (g := (mkF m 31 #[.val (.ref ao), .val (.int top), .val (.int cnt), .val (.int mk), .val (.long (blF per top cnt)), .second] [(.ref ao)])) rfl rfl (hb hby d78m7_31)
    refine OGets.step st257 ?_
    refine OGets.step (fun _ => XS.lload X257.here hx rfl (hb hby d78m7_34) rfl) ?_
    refine OGets.step (fun _ => XS.l2i X257.here hx rfl (hb hby d78m7_36) rfl) ?_
    refine OGets.step (U' := T257.setTop (mkF m 38 #[.val (.ref ao), .val (.int top), .val (.int cnt), .val (.int mk), .val (.long (blF per top cnt)), .second] [(.int ((blF per top cnt).toInt32)), (.ref ab), (.int ((blF per top cnt).toInt32)), (.ref ab)])) (fun t kt => ?_) ?_
    · jvm_step X257.here [X257.here.top, hx, (hb hby d78m7_37), Value.category]
      exact kt
    obtain ⟨cl258, Ar258, S258⟩ := V255.arr 1 rfl
    refine OGets.step (fun _ => X257.iaload hx (j := ((blF per top cnt).toInt32)) (v := (.int (gi (si BB top ((gi BB top) + mk)) ((blF per top cnt).toInt32)))) (by rw [e257]; exact Ar258.1) (State.isArrayOf_alike hZ.alike Ar258.2.1) Ar258.2.2 (own_sin (n := 5) S258 (by simp only [List.length_map, si_len, sj_len, List.length_replicate, hlB]) (hi2 hc27_256)) (own_sgetI (n := 5) S258 (by simp only [List.length_map, si_len, sj_len, List.length_replicate, hlB]) (hi2 hc27_256)) (g := (mkF m 38 #[.val (.ref ao), .val (.int top), .val (.int cnt), .val (.int mk), .val (.long (blF per top cnt)), .second] [(.int ((blF per top cnt).toInt32)), (.ref ab), (.int ((blF per top cnt).toInt32)), (.ref ab)])) rfl rfl (hb hby d78m7_38) _) ?_
    refine OGets.step (fun _ => XS.iloadN X257.here hx rfl (hb hby d78m7_39) rfl) ?_
    refine OGets.step (fun _ => XS.isub X257.here hx rfl (hb hby d78m7_40) rfl) ?_
    obtain ⟨cl259, Ar259, S259⟩ := V255.arr 1 rfl
    obtain ⟨T259, h259, X259, e259, W259, st259⟩ := stI X257 hx hZ e257 Ar259 (j := ((blF per top cnt).toInt32)) (own_sin (n := 5) S259 (by simp only [List.length_map, si_len, sj_len, List.length_replicate, hlB]) (hi2 hc27_256)) (g := (mkF m 41 #[.val (.ref ao), .val (.int top), .val (.int cnt), .val (.int mk), .val (.long (blF per top cnt)), .second] [(.int ((gi (si BB top ((gi BB top) + mk)) ((blF per top cnt).toInt32)) - mk)), (.int ((blF per top cnt).toInt32)), (.ref ab)])) rfl rfl (hb hby d78m7_41)
    have V259 : OView Z n0 h259 (oC ao [(.int per), (.ref au), (.ref ac), (.ref ab), (.ref ay), (.int hg)] :: oA ab (si (si BB top ((gi BB top) + mk)) ((blF per top cnt).toInt32) ((gi (si BB top ((gi BB top) + mk)) ((blF per top cnt).toInt32)) - mk)) :: F) := V255.putI 1 rfl W259
    have N259 := Fr.snoc X259 N255 (V255.old 1 rfl)
    have Z259 : n0 ≤ h259.size := by rw [W259.size]; exact Z255
    refine OGets.step st259 ?_
    refine OGets.retV X259 hx hlk Bd.returns (hb hby d78m7_42) (Nat.le_of_ble_eq_true rfl) (Nat.le_of_ble_eq_true rfl) ?_
    have t1 : mkV BB per top cnt mk = (si (si BB top ((gi BB top) + mk)) ((blF per top cnt).toInt32) ((gi (si BB top ((gi BB top) + mk)) ((blF per top cnt).toInt32)) - mk)) := if_neg hc27_256
    rw [e259]
    refine ⟨rfl, N259, ?_⟩
    rw [t1]
    exact V259
theorem d84m16_0 : decode prog_84_method_16_code 0 = .ok (.aload_n 0, 1) := by decide +kernel
theorem d84m16_1 : decode prog_84_method_16_code 1 = .ok (.getfield 22, 3) := by decide +kernel
theorem d84m16_4 : decode prog_84_method_16_code 4 = .ok (.ireturn, 1) := by decide +kernel
theorem ef_wid (m : MethodId) (x0 : Addr) : entryFrame m #[(.ref x0)] 1 = mkF m 0 #[.val (.ref x0)] [] := by first | (simp [entryFrame, mkF, argsToLocals, Value.category]; done) | rfl
def Q_wid (Z : State) (ast : Addr) (lo : Int32) (hi : Int32) (per : Int32) (ph : Int32) (wd : Int32) (h0 : Heap) (n0 : Nat) (F : List (Addr × OObj)) (v : Option Value) (h : Heap) (L : List Loc) : Prop := v = some (.int wd) ∧ L = [] ∧ h = h0
set_option maxRecDepth 65536 in
set_option maxHeartbeats 40000000 in
theorem rm_wid (l : Launch) (Z : State) (a0 : Array Value) (hw : ∀ d ∈ tables_1, d.before a0 Z = true) (ws : List Jvm.Cond) (ast : Addr) (lo : Int32) (hi : Int32) (per : Int32) (ph : Int32) (wd : Int32) (h0 : Heap) (n0 : Nat) (F : List (Addr × OObj)) (Z0 : n0 ≤ h0.size) (V0 : OView Z n0 h0 (oS ast [(.int lo), (.int hi), (.int per), (.int ph), (.int wd)] :: F)) :
    MetFree l (⟨"com/example/pelt/pelt/Strand", "width", "()I"⟩ : MethodName) (head1 (Jvm.Cond.code (⟨"com/example/pelt/pelt/Strand", "width", "()I"⟩ : MethodName) prog_84_method_16_code 1 (some .int) :: ws) ({ frames := 0, cells := 0, slots := 0, locals := 0 } : Room)) (fun a_ U => a_ = #[(.ref ast)] ∧ Z.Warmed39 U.vm ∧ U.heap = h0) (fun _ _ _ _ _ => True) (fun _ U o U' => ∃ v L, o = .returned v ∧ Q_wid Z ast lo hi per ph wd h0 n0 F v U'.heap L ∧ FrameEnd U o U' L ({ frames := 0, cells := 0, slots := 0, locals := 0 } : Room).cells ({ frames := 0, cells := 0, slots := 0, locals := 0 } : Room).slots) := by
  refine MetFree.of_bodySF (plainFor_of_name pn_1) hisR ?_
  intro p e s m args below meth c s₁ Bd hml0 hP hK
  obtain ⟨rfl, hZ, hh⟩ := hP
  have hx := Bd.exec
  have hby := Bd.bytes
  have hlk : meth.locks = false := Bd.notSynchronized
  have hml : c.maxLocals = 1 := hml0
  have hown : s.vm.findClass "com/example/pelt/pelt/Strand" = some m.cls := findClass_of_methodNamed Bd.named
  have hnm := (name_of_methodNamed Bd.named Bd.method).1
  have X0 : Stand p l e ({ frames := 0, cells := 0, slots := 0, locals := 0 } : Room) s m #[(.ref ast)] below meth c s₁ [] 0 0 := Stand.of_body Bd
  have e0 : s₁.heap = h0 := by rw [← hh, Bd.state]; rfl
  have N0 := Fr.nil n0
  show OGets p e below (OLeaves s (Q_wid Z ast lo hi per ph wd h0 n0 F ) ({ frames := 0, cells := 0, slots := 0, locals := 0 } : Room).cells ({ frames := 0, cells := 0, slots := 0, locals := 0 } : Room).slots) _
  refine OGets.enter (ef_wid m ast) ?_
  show OGets p e below _ (s₁.setTop (mkF m 0 #[.val (.ref ast)] []))
  refine OGets.step (fun _ => XS.aloadN X0.here hx rfl (hb hby d84m16_0) rfl rfl) ?_
  obtain ⟨T260, X260, e260, st260⟩ := getF X0 hx hZ hown (host := "") (Or.inl (hw _ (List.mem_of_getElem? (i := 49) rfl))) Via.refl e0 (V0.fld 0 rfl 4 rfl rfl) (g := (mkF m 1 #[.val (.ref ast)] [(.ref ast)])) rfl rfl (hb hby d84m16_1)
  refine OGets.step st260 ?_
  refine OGets.retI X260 hx hlk Bd.returns (hb hby d84m16_4) (Nat.le_of_ble_eq_true rfl) (Nat.le_of_ble_eq_true rfl) ?_
  exact ⟨rfl, rfl, e260⟩
def tpA (per wd fst cnt : Int32) : Int32 := fst + (cnt - 1) * per + wd - 1
def tpB (per fst cnt : Int32) : Int32 := fst + (cnt - 1) * per - 1
def bkF (B : List Int32) (per wd fst cnt : Int32) : List Int32 := mkV (mkV B per (tpA per wd fst cnt) cnt 1) per (tpB per fst cnt) cnt (-1)
theorem bkF_len (B : List Int32) (per wd fst cnt : Int32) : (bkF B per wd fst cnt).length = B.length := by unfold bkF; rw [mkV_len, mkV_len]
def bkOk (per wd fst cnt : Int32) : Prop := inb 5 (tpA per wd fst cnt) ∧ (¬ blF per (tpA per wd fst cnt) cnt < 0 → inb 5 (blF per (tpA per wd fst cnt) cnt).toInt32) ∧ inb 5 (tpB per fst cnt) ∧ (¬ blF per (tpB per fst cnt) cnt < 0 → inb 5 (blF per (tpB per fst cnt) cnt).toInt32)
instance (per wd fst cnt : Int32) : Decidable (bkOk per wd fst cnt) := by unfold bkOk; exact inferInstance
theorem d80m3_0 : decode prog_80_method_3_code 0 = .ok (.iload_n 1, 1) := by decide +kernel
theorem d80m3_1 : decode prog_80_method_3_code 1 = .ok (.iload_n 2, 1) := by decide +kernel
theorem d80m3_2 : decode prog_80_method_3_code 2 = .ok (.iconst 1, 1) := by decide +kernel
theorem d80m3_3 : decode prog_80_method_3_code 3 = .ok (.isub, 1) := by decide +kernel
theorem d80m3_4 : decode prog_80_method_3_code 4 = .ok (.aload_n 0, 1) := by decide +kernel
theorem d80m3_5 : decode prog_80_method_3_code 5 = .ok (.getfield 1, 3) := by decide +kernel
theorem d80m3_8 : decode prog_80_method_3_code 8 = .ok (.getfield 23, 3) := by decide +kernel
theorem d80m3_11 : decode prog_80_method_3_code 11 = .ok (.imul, 1) := by decide +kernel
theorem d80m3_12 : decode prog_80_method_3_code 12 = .ok (.iadd, 1) := by decide +kernel
theorem d80m3_13 : decode prog_80_method_3_code 13 = .ok (.aload_n 0, 1) := by decide +kernel
theorem d80m3_14 : decode prog_80_method_3_code 14 = .ok (.getfield 7, 3) := by decide +kernel
theorem d80m3_17 : decode prog_80_method_3_code 17 = .ok (.invokevirtual 27, 3) := by decide +kernel
theorem pd_5 : parseMethodDescriptor "()I" = some ⟨[], some .int⟩ := by decide +kernel
theorem d80m3_20 : decode prog_80_method_3_code 20 = .ok (.iadd, 1) := by decide +kernel
theorem d80m3_21 : decode prog_80_method_3_code 21 = .ok (.iconst 1, 1) := by decide +kernel
theorem d80m3_22 : decode prog_80_method_3_code 22 = .ok (.isub, 1) := by decide +kernel
theorem d80m3_23 : decode prog_80_method_3_code 23 = .ok (.istore_n 3, 1) := by decide +kernel
theorem d80m3_24 : decode prog_80_method_3_code 24 = .ok (.aload_n 0, 1) := by decide +kernel
theorem d80m3_25 : decode prog_80_method_3_code 25 = .ok (.getfield 1, 3) := by decide +kernel
theorem d80m3_28 : decode prog_80_method_3_code 28 = .ok (.iload_n 3, 1) := by decide +kernel
theorem d80m3_29 : decode prog_80_method_3_code 29 = .ok (.iload_n 2, 1) := by decide +kernel
theorem d80m3_30 : decode prog_80_method_3_code 30 = .ok (.iconst 1, 1) := by decide +kernel
theorem d80m3_31 : decode prog_80_method_3_code 31 = .ok (.invokevirtual 33, 3) := by decide +kernel
theorem pd_6 : parseMethodDescriptor "(III)V" = some ⟨[.int, .int, .int], none⟩ := by decide +kernel
theorem d80m3_34 : decode prog_80_method_3_code 34 = .ok (.aload_n 0, 1) := by decide +kernel
theorem d80m3_35 : decode prog_80_method_3_code 35 = .ok (.getfield 1, 3) := by decide +kernel
theorem d80m3_38 : decode prog_80_method_3_code 38 = .ok (.iload_n 1, 1) := by decide +kernel
theorem d80m3_39 : decode prog_80_method_3_code 39 = .ok (.iload_n 2, 1) := by decide +kernel
theorem d80m3_40 : decode prog_80_method_3_code 40 = .ok (.iconst 1, 1) := by decide +kernel
theorem d80m3_41 : decode prog_80_method_3_code 41 = .ok (.isub, 1) := by decide +kernel
theorem d80m3_42 : decode prog_80_method_3_code 42 = .ok (.aload_n 0, 1) := by decide +kernel
theorem d80m3_43 : decode prog_80_method_3_code 43 = .ok (.getfield 1, 3) := by decide +kernel
theorem d80m3_46 : decode prog_80_method_3_code 46 = .ok (.getfield 23, 3) := by decide +kernel
theorem d80m3_49 : decode prog_80_method_3_code 49 = .ok (.imul, 1) := by decide +kernel
theorem d80m3_50 : decode prog_80_method_3_code 50 = .ok (.iadd, 1) := by decide +kernel
theorem d80m3_51 : decode prog_80_method_3_code 51 = .ok (.iconst 1, 1) := by decide +kernel
theorem d80m3_52 : decode prog_80_method_3_code 52 = .ok (.isub, 1) := by decide +kernel
theorem d80m3_53 : decode prog_80_method_3_code 53 = .ok (.iload_n 2, 1) := by decide +kernel
theorem d80m3_54 : decode prog_80_method_3_code 54 = .ok (.iconst (-1), 1) := by decide +kernel
theorem d80m3_55 : decode prog_80_method_3_code 55 = .ok (.invokevirtual 33, 3) := by decide +kernel
theorem d80m3_58 : decode prog_80_method_3_code 58 = .ok (.lconst 0, 1) := by decide +kernel
theorem d80m3_59 : decode prog_80_method_3_code 59 = .ok (.lreturn, 1) := by decide +kernel
theorem ef_bk (m : MethodId) (x0 : Addr) (x1 : Int32) (x2 : Int32) : entryFrame m #[(.ref x0), (.int x1), (.int x2)] 4 = mkF m 0 #[.val (.ref x0), .val (.int x1), .val (.int x2), .unset] [] := by first | (simp [entryFrame, mkF, argsToLocals, Value.category]; done) | rfl
def Q_bk (Z : State) (ax : Addr) (ast : Addr) (ao : Addr) (au : Addr) (ac : Addr) (ab : Addr) (ay : Addr) (per : Int32) (hg : Int32) (lo : Int32) (hi : Int32) (sper : Int32) (ph : Int32) (wd : Int32) (fst : Int32) (cnt : Int32) (BB : List Int32) (h0 : Heap) (n0 : Nat) (F : List (Addr × OObj)) (v : Option Value) (h : Heap) (L : List Loc) : Prop := v = some (.long 0) ∧ Fr n0 L ∧ OView Z n0 h (oC ao [(.int per), (.ref au), (.ref ac), (.ref ab), (.ref ay), (.int hg)] :: oA ab (bkF BB per wd fst cnt) :: oS ast [(.int lo), (.int hi), (.int sper), (.int ph), (.int wd)] :: oX ax [(.ref ao), (.ref ast)] :: F)
set_option maxRecDepth 65536 in
set_option maxHeartbeats 40000000 in
theorem rm_bk (l : Launch) (Z : State) (a0 : Array Value) (hw : ∀ d ∈ tables_1, d.before a0 Z = true) (ws : List Jvm.Cond) (ax : Addr) (ast : Addr) (ao : Addr) (au : Addr) (ac : Addr) (ab : Addr) (ay : Addr) (per : Int32) (hg : Int32) (lo : Int32) (hi : Int32) (sper : Int32) (ph : Int32) (wd : Int32) (fst : Int32) (cnt : Int32) (BB : List Int32) (h0 : Heap) (n0 : Nat) (F : List (Addr × OObj)) (Z0 : n0 ≤ h0.size) (hlB : BB.length = 5) (hok : bkOk per wd fst cnt) (V0 : OView Z n0 h0 (oC ao [(.int per), (.ref au), (.ref ac), (.ref ab), (.ref ay), (.int hg)] :: oA ab BB :: oS ast [(.int lo), (.int hi), (.int sper), (.int ph), (.int wd)] :: oX ax [(.ref ao), (.ref ast)] :: F)) :
    MetFree l (⟨"com/example/pelt/pelt/StackCounts$2", "blocks", "(II)J"⟩ : MethodName) (head1 (Jvm.Cond.code (⟨"com/example/pelt/pelt/StackCounts$2", "blocks", "(II)J"⟩ : MethodName) prog_80_method_3_code 4 (some .long) :: ws) ({ frames := 1, cells := 0, slots := 0, locals := 17 } : Room)) (fun a_ U => a_ = #[(.ref ax), (.int fst), (.int cnt)] ∧ Z.Warmed39 U.vm ∧ U.heap = h0) (fun _ _ _ _ _ => True) (fun _ U o U' => ∃ v L, o = .returned v ∧ Q_bk Z ax ast ao au ac ab ay per hg lo hi sper ph wd fst cnt BB h0 n0 F v U'.heap L ∧ FrameEnd U o U' L ({ frames := 1, cells := 0, slots := 0, locals := 17 } : Room).cells ({ frames := 1, cells := 0, slots := 0, locals := 17 } : Room).slots) := by
  refine MetFree.of_bodySF (plainFor_of_name pn_4) hisR ?_
  intro p e s m args below meth c s₁ Bd hml0 hP hK
  obtain ⟨rfl, hZ, hh⟩ := hP
  have hx := Bd.exec
  have hby := Bd.bytes
  have hlk : meth.locks = false := Bd.notSynchronized
  have hml : c.maxLocals = 4 := hml0
  have hown : s.vm.findClass "com/example/pelt/pelt/StackCounts$2" = some m.cls := findClass_of_methodNamed Bd.named
  have hnm := (name_of_methodNamed Bd.named Bd.method).1
  have X0 : Stand p l e ({ frames := 1, cells := 0, slots := 0, locals := 17 } : Room) s m #[(.ref ax), (.int fst), (.int cnt)] below meth c s₁ [] 0 0 := Stand.of_body Bd
  have e0 : s₁.heap = h0 := by rw [← hh, Bd.state]; rfl
  have N0 := Fr.nil n0
  show OGets p e below (OLeaves s (Q_bk Z ax ast ao au ac ab ay per hg lo hi sper ph wd fst cnt BB h0 n0 F ) ({ frames := 1, cells := 0, slots := 0, locals := 17 } : Room).cells ({ frames := 1, cells := 0, slots := 0, locals := 17 } : Room).slots) _
  refine OGets.enter (ef_bk m ax fst cnt) ?_
  show OGets p e below _ (s₁.setTop (mkF m 0 #[.val (.ref ax), .val (.int fst), .val (.int cnt), .unset] []))
  refine OGets.step (fun _ => XS.iloadN X0.here hx rfl (hb hby d80m3_0) rfl) ?_
  refine OGets.step (fun _ => XS.iloadN X0.here hx rfl (hb hby d80m3_1) rfl) ?_
  refine OGets.step (fun _ => XS.iconst X0.here hx rfl (hb hby d80m3_2)) ?_
  refine OGets.step (fun _ => XS.isub X0.here hx rfl (hb hby d80m3_3) rfl) ?_
  refine OGets.step (fun _ => XS.aloadN X0.here hx rfl (hb hby d80m3_4) rfl rfl) ?_
  obtain ⟨T261, X261, e261, st261⟩ := getF X0 hx hZ hown (host := "") (Or.inl (hw _ (List.mem_of_getElem? (i := 62) rfl))) Via.refl e0 (V0.fld 3 rfl 0 rfl rfl) (g := (mkF m 5 #[.val (.ref ax), .val (.int fst), .val (.int cnt), .unset] [(.ref ax), (.int (cnt - (1 : Int32))), (.int fst)])) rfl rfl (hb hby d80m3_5)
  refine OGets.step st261 ?_
  obtain ⟨T262, X262, e262, st262⟩ := getF X261 hx hZ hown (Or.inr (hw _ (List.mem_of_getElem? (i := 115) rfl))) Via.refl e261 (V0.fld 0 rfl 0 rfl rfl) (g := (mkF m 8 #[.val (.ref ax), .val (.int fst), .val (.int cnt), .unset] [(.ref ao), (.int (cnt - (1 : Int32))), (.int fst)])) rfl rfl (hb hby d80m3_8)
  refine OGets.step st262 ?_
  refine OGets.step (fun _ => XS.imul X262.here hx rfl (hb hby d80m3_11) rfl) ?_
  refine OGets.step (fun _ => XS.iadd X262.here hx rfl (hb hby d80m3_12) rfl) ?_
  refine OGets.step (fun _ => XS.aloadN X262.here hx rfl (hb hby d80m3_13) rfl rfl) ?_
  obtain ⟨T263, X263, e263, st263⟩ := getF X262 hx hZ hown (host := "") (Or.inl (hw _ (List.mem_of_getElem? (i := 64) rfl))) Via.refl e262 (V0.fld 3 rfl 1 rfl rfl) (g := (mkF m 14 #[.val (.ref ax), .val (.int fst), .val (.int cnt), .unset] [(.ref ax), (.int (fst + ((cnt - (1 : Int32)) * per)))])) rfl rfl (hb hby d80m3_14)
  refine OGets.step st263 ?_
  have V264_ : OView Z _ h0 (oS ast [(.int lo), (.int hi), (.int sper), (.int ph), (.int wd)] :: oC ao [(.int per), (.ref au), (.ref ac), (.ref ab), (.ref ay), (.int hg)] :: oA ab BB :: oX ax [(.ref ao), (.ref ast)] :: F) := (V0.bring 2 rfl)
  obtain ⟨cq264, kq264, q264a, q264b, q264c⟩ := isOf hZ e263 (V264_.exa 0 rfl)
  obtain ⟨_, _, ⟨T264, L264, k264, n264⟩, -, X264, ⟨Lc264, hQ264, l264, y264, z264⟩, st264⟩ := X263.virtualBack hx (y := (⟨"com/example/pelt/pelt/Strand", "width", "()I"⟩ : MethodName)) (z := (⟨"com/example/pelt/pelt/Strand", "width", "()I"⟩ : MethodName)) hown (mvT hZ (hw _ (List.mem_of_getElem? (i := 116) rfl))) (mvT hZ (hw _ (List.mem_of_getElem? (i := 117) rfl))) (notFace_of_selects (args := #[]) (mvT hZ (hw _ (List.mem_of_getElem? (i := 119) rfl)))) (mvT hZ (hw _ (List.mem_of_getElem? (i := 119) rfl))) (mvT hZ (hw _ (List.mem_of_getElem? (i := 118) rfl))) (by decide) (backOf (W := 1) (rm_wid l Z a0 hw [] ast lo hi sper ph wd h0 n0 (oC ao [(.int per), (.ref au), (.ref ac), (.ref ab), (.ref ay), (.int hg)] :: oA ab BB :: oX ax [(.ref ao), (.ref ast)] :: F) Z0  V264_) hZ (hw _ (List.mem_of_getElem? (i := 120) rfl)) (hw _ (List.mem_of_getElem? (i := 31) rfl)) (by decide) (by decide)) q264a q264c (g := (mkF m 17 #[.val (.ref ax), .val (.int fst), .val (.int cnt), .unset] [(.ref ast), (.int (fst + ((cnt - (1 : Int32)) * per)))])) rfl (by rw [hml]; rfl) (Steps.refl _) (argsL := []) (rest := [(.int (fst + ((cnt - (1 : Int32)) * per)))]) (lenOf pd_5 rfl) rfl (by show 2 * 0 + _ ≤ _; exact Nat.le_of_eq rfl) (hb hby d80m3_17) (fun _ _ => ⟨rfl, e263, Nat.le_of_ble_eq_true rfl, Nat.le_of_ble_eq_true rfl⟩)
  dsimp only [Pt.U, Pt.locs, Pt.cells, Pt.slots] at X264 l264 y264 z264 st264 hQ264
  rw [l264, y264, z264] at X264
  obtain ⟨rfl, rfl, e264⟩ := hQ264
  have N264 := Fr.app N0 (Fr.nil n0)
  refine OGets.after st264 ?_
  refine OGets.step (fun _ => XS.iadd X264.here hx rfl (hb hby d80m3_20) rfl) ?_
  refine OGets.step (fun _ => XS.iconst X264.here hx rfl (hb hby d80m3_21)) ?_
  refine OGets.step (fun _ => XS.isub X264.here hx rfl (hb hby d80m3_22) rfl) ?_
  show OGets p e below _ (T264.setTop (mkF m 23 #[.val (.ref ax), .val (.int fst), .val (.int cnt), .unset] [(.int (tpA per wd fst cnt))]))
  refine OGets.step (fun _ => XS.istoreN X264.here hx rfl (hb hby d80m3_23) rfl (l' := #[.val (.ref ax), .val (.int fst), .val (.int cnt), .val (.int (tpA per wd fst cnt))]) rfl) ?_
  refine OGets.step (fun _ => XS.aloadN X264.here hx rfl (hb hby d80m3_24) rfl rfl) ?_
  obtain ⟨T265, X265, e265, st265⟩ := getF X264 hx hZ hown (host := "") (Or.inl (hw _ (List.mem_of_getElem? (i := 62) rfl))) Via.refl e264 (V264_.fld 3 rfl 0 rfl rfl) (g := (mkF m 25 #[.val (.ref ax), .val (.int fst), .val (.int cnt), .val (.int (tpA per wd fst cnt))] [(.ref ax)])) rfl rfl (hb hby d80m3_25)
  refine OGets.step st265 ?_
  refine OGets.step (fun _ => XS.iloadN X265.here hx rfl (hb hby d80m3_28) rfl) ?_
  refine OGets.step (fun _ => XS.iloadN X265.here hx rfl (hb hby d80m3_29) rfl) ?_
  refine OGets.step (fun _ => XS.iconst X265.here hx rfl (hb hby d80m3_30)) ?_
  have V266_ : OView Z _ h0 (oC ao [(.int per), (.ref au), (.ref ac), (.ref ab), (.ref ay), (.int hg)] :: oA ab BB :: oS ast [(.int lo), (.int hi), (.int sper), (.int ph), (.int wd)] :: oX ax [(.ref ao), (.ref ast)] :: F) := ((V264_.bring 2 rfl).bring 2 rfl)
  obtain ⟨cq266, q266, q266'⟩ := (V266_.exa 0 rfl).cell
  obtain ⟨_, _, ⟨T266, L266, k266, n266⟩, -, X266, ⟨Lc266, hQ266, l266, y266, z266⟩, st266⟩ := own_nest X265 hx (y := (⟨"com/example/pelt/pelt/StackCounts", "mark", "(III)V"⟩ : MethodName)) hown (own_mvM hZ (hw _ (List.mem_of_getElem? (i := 121) rfl))) (mvT hZ (hw _ (List.mem_of_getElem? (i := 122) rfl))) (mvT hZ (hw _ (List.mem_of_getElem? (i := 3) rfl))) (Cond.privateMethod_at (mvP hZ (hw _ (List.mem_of_getElem? (i := 123) rfl)) (args := #[]))) (mvT hZ (hw _ (List.mem_of_getElem? (i := 124) rfl))) (by decide) (backOf (W := 0) (rm_mk l Z a0 hw [] ao au ac ab ay per hg (tpA per wd fst cnt) cnt (1 : Int32) BB h0 n0 (oS ast [(.int lo), (.int hi), (.int sper), (.int ph), (.int wd)] :: oX ax [(.ref ao), (.ref ast)] :: F) Z0 hlB hok.1 hok.2.1 V266_) hZ (hw _ (List.mem_of_getElem? (i := 124) rfl)) (hw _ (List.mem_of_getElem? (i := 4) rfl)) (by decide) (by decide)) (g := (mkF m 31 #[.val (.ref ax), .val (.int fst), .val (.int cnt), .val (.int (tpA per wd fst cnt))] [(.int 1), (.int cnt), (.int (tpA per wd fst cnt)), (.ref ao)])) rfl (by rw [hml]; rfl) (a := ao) (by rw [e265]; exact q266) q266' (argsL := [(.int (tpA per wd fst cnt)), (.int cnt), (.int 1)]) (rest := []) (lenOf pd_6 rfl) rfl (by show 2 * 0 + _ ≤ _; exact Nat.le_of_eq rfl) (hb hby d80m3_31) (fun _ _ => ⟨rfl, e265, Nat.le_of_ble_eq_true rfl, Nat.le_of_ble_eq_true rfl⟩)
  dsimp only [Pt.U, Pt.locs, Pt.cells, Pt.slots] at X266 l266 y266 z266 st266 hQ266
  rw [l266, y266, z266] at X266
  obtain ⟨rfl, N266q, V266⟩ := hQ266
  have N266 := Fr.app N264 N266q
  have V266v : OView Z n0 T266.heap (oC ao [(.int per), (.ref au), (.ref ac), (.ref ab), (.ref ay), (.int hg)] :: oA ab (mkV BB per (tpA per wd fst cnt) cnt (1 : Int32)) :: oS ast [(.int lo), (.int hi), (.int sper), (.int ph), (.int wd)] :: oX ax [(.ref ao), (.ref ast)] :: F) := V266
  have Z266 : n0 ≤ T266.heap.size := V266v.big 0 rfl
  refine OGets.after st266 ?_
  refine OGets.step (fun _ => XS.aloadN X266.here hx rfl (hb hby d80m3_34) rfl rfl) ?_
  obtain ⟨T267, X267, e267, st267⟩ := getF X266 hx hZ hown (host := "") (Or.inl (hw _ (List.mem_of_getElem? (i := 62) rfl))) Via.refl rfl (V266v.fld 3 rfl 0 rfl rfl) (g := (mkF m 35 #[.val (.ref ax), .val (.int fst), .val (.int cnt), .val (.int (tpA per wd fst cnt))] [(.ref ax)])) rfl rfl (hb hby d80m3_35)
  refine OGets.step st267 ?_
  refine OGets.step (fun _ => XS.iloadN X267.here hx rfl (hb hby d80m3_38) rfl) ?_
  refine OGets.step (fun _ => XS.iloadN X267.here hx rfl (hb hby d80m3_39) rfl) ?_
  refine OGets.step (fun _ => XS.iconst X267.here hx rfl (hb hby d80m3_40)) ?_
  refine OGets.step (fun _ => XS.isub X267.here hx rfl (hb hby d80m3_41) rfl) ?_
  refine OGets.step (fun _ => XS.aloadN X267.here hx rfl (hb hby d80m3_42) rfl rfl) ?_
  obtain ⟨T268, X268, e268, st268⟩ := getF X267 hx hZ hown (host := "") (Or.inl (hw _ (List.mem_of_getElem? (i := 62) rfl))) Via.refl e267 (V266v.fld 3 rfl 0 rfl rfl) (g := (mkF m 43 #[.val (.ref ax), .val (.int fst), .val (.int cnt), .val (.int (tpA per wd fst cnt))] [(.ref ax), (.int (cnt - (1 : Int32))), (.int fst), (.ref ao)])) rfl rfl (hb hby d80m3_43)
  refine OGets.step st268 ?_
  obtain ⟨T269, X269, e269, st269⟩ := getF X268 hx hZ hown (Or.inr (hw _ (List.mem_of_getElem? (i := 115) rfl))) Via.refl e268 (V266v.fld 0 rfl 0 rfl rfl) (g := (mkF m 46 #[.val (.ref ax), .val (.int fst), .val (.int cnt), .val (.int (tpA per wd fst cnt))] [(.ref ao), (.int (cnt - (1 : Int32))), (.int fst), (.ref ao)])) rfl rfl (hb hby d80m3_46)
  refine OGets.step st269 ?_
  refine OGets.step (fun _ => XS.imul X269.here hx rfl (hb hby d80m3_49) rfl) ?_
  refine OGets.step (fun _ => XS.iadd X269.here hx rfl (hb hby d80m3_50) rfl) ?_
  refine OGets.step (fun _ => XS.iconst X269.here hx rfl (hb hby d80m3_51)) ?_
  refine OGets.step (fun _ => XS.isub X269.here hx rfl (hb hby d80m3_52) rfl) ?_
  show OGets p e below _ (T269.setTop (mkF m 53 #[.val (.ref ax), .val (.int fst), .val (.int cnt), .val (.int (tpA per wd fst cnt))] [(.int (tpB per fst cnt)), (.ref ao)]))
  refine OGets.step (fun _ => XS.iloadN X269.here hx rfl (hb hby d80m3_53) rfl) ?_
  refine OGets.step (fun _ => XS.iconst X269.here hx rfl (hb hby d80m3_54)) ?_
  obtain ⟨cq270, q270, q270'⟩ := (V266v.exa 0 rfl).cell
  obtain ⟨_, _, ⟨T270, L270, k270, n270⟩, -, X270, ⟨Lc270, hQ270, l270, y270, z270⟩, st270⟩ := own_nest X269 hx (y := (⟨"com/example/pelt/pelt/StackCounts", "mark", "(III)V"⟩ : MethodName)) hown (own_mvM hZ (hw _ (List.mem_of_getElem? (i := 121) rfl))) (mvT hZ (hw _ (List.mem_of_getElem? (i := 122) rfl))) (mvT hZ (hw _ (List.mem_of_getElem? (i := 3) rfl))) (Cond.privateMethod_at (mvP hZ (hw _ (List.mem_of_getElem? (i := 123) rfl)) (args := #[]))) (mvT hZ (hw _ (List.mem_of_getElem? (i := 124) rfl))) (by decide) (backOf (W := 0) (rm_mk l Z a0 hw [] ao au ac ab ay per hg (tpB per fst cnt) cnt (-1 : Int32) (mkV BB per (tpA per wd fst cnt) cnt (1 : Int32)) T266.heap n0 (oS ast [(.int lo), (.int hi), (.int sper), (.int ph), (.int wd)] :: oX ax [(.ref ao), (.ref ast)] :: F) Z266 (by rw [mkV_len]; exact hlB) hok.2.2.1 hok.2.2.2 V266v) hZ (hw _ (List.mem_of_getElem? (i := 124) rfl)) (hw _ (List.mem_of_getElem? (i := 4) rfl)) (by decide) (by decide)) (g := (mkF m 55 #[.val (.ref ax), .val (.int fst), .val (.int cnt), .val (.int (tpA per wd fst cnt))] [(.int (-1 : Int32)), (.int cnt), (.int (tpB per fst cnt)), (.ref ao)])) rfl (by rw [hml]; rfl) (a := ao) (by rw [e269]; exact q270) q270' (argsL := [(.int (tpB per fst cnt)), (.int cnt), (.int (-1 : Int32))]) (rest := []) (lenOf pd_6 rfl) rfl (by show 2 * 0 + _ ≤ _; exact Nat.le_of_eq rfl) (hb hby d80m3_55) (fun _ _ => ⟨rfl, e269, Nat.le_of_ble_eq_true rfl, Nat.le_of_ble_eq_true rfl⟩)
  dsimp only [Pt.U, Pt.locs, Pt.cells, Pt.slots] at X270 l270 y270 z270 st270 hQ270
  rw [l270, y270, z270] at X270
  obtain ⟨rfl, N270q, V270⟩ := hQ270
  have N270 := Fr.app N266 N270q
  have V270v : OView Z n0 T270.heap (oC ao [(.int per), (.ref au), (.ref ac), (.ref ab), (.ref ay), (.int hg)] :: oA ab (mkV (mkV BB per (tpA per wd fst cnt) cnt (1 : Int32)) per (tpB per fst cnt) cnt (-1 : Int32)) :: oS ast [(.int lo), (.int hi), (.int sper), (.int ph), (.int wd)] :: oX ax [(.ref ao), (.ref ast)] :: F) := V270
  have Z270 : n0 ≤ T270.heap.size := V270v.big 0 rfl
  refine OGets.after st270 ?_
  refine OGets.step (fun _ => XS.lconst X270.here hx rfl (hb hby d80m3_58)) ?_
  refine OGets.retJ X270 hx hlk Bd.returns (hb hby d80m3_59) (Nat.le_of_ble_eq_true rfl) (Nat.le_of_ble_eq_true rfl) ?_
  refine ⟨rfl, N270, ?_⟩
  exact V270v
def f_fm (p0 : Int32) (p1 : Int32) : Int32 := (if (p0 ^^^ p1) < (0 : Int32) then (if (p0 % p1) = (0 : Int32) then (p0 % p1) else ((p0 % p1) + p1)) else (p0 % p1))
theorem dj29m50_0 : decode jdk_29_method_50_code 0 = .ok (.iload_n 0, 1) := by decide +kernel
theorem dj29m50_1 : decode jdk_29_method_50_code 1 = .ok (.iload_n 1, 1) := by decide +kernel
theorem dj29m50_2 : decode jdk_29_method_50_code 2 = .ok (.irem, 1) := by decide +kernel
theorem dj29m50_3 : decode jdk_29_method_50_code 3 = .ok (.istore_n 2, 1) := by decide +kernel
theorem dj29m50_4 : decode jdk_29_method_50_code 4 = .ok (.iload_n 0, 1) := by decide +kernel
theorem dj29m50_5 : decode jdk_29_method_50_code 5 = .ok (.iload_n 1, 1) := by decide +kernel
theorem dj29m50_6 : decode jdk_29_method_50_code 6 = .ok (.ixor, 1) := by decide +kernel
theorem dj29m50_7 : decode jdk_29_method_50_code 7 = .ok (.ifCond .ge 11, 3) := by decide +kernel
theorem dj29m50_10 : decode jdk_29_method_50_code 10 = .ok (.iload_n 2, 1) := by decide +kernel
theorem dj29m50_11 : decode jdk_29_method_50_code 11 = .ok (.ifCond .eq 7, 3) := by decide +kernel
theorem dj29m50_18 : decode jdk_29_method_50_code 18 = .ok (.iload_n 2, 1) := by decide +kernel
theorem dj29m50_19 : decode jdk_29_method_50_code 19 = .ok (.ireturn, 1) := by decide +kernel
theorem dj29m50_14 : decode jdk_29_method_50_code 14 = .ok (.iload_n 2, 1) := by decide +kernel
theorem dj29m50_15 : decode jdk_29_method_50_code 15 = .ok (.iload_n 1, 1) := by decide +kernel
theorem dj29m50_16 : decode jdk_29_method_50_code 16 = .ok (.iadd, 1) := by decide +kernel
theorem dj29m50_17 : decode jdk_29_method_50_code 17 = .ok (.ireturn, 1) := by decide +kernel
theorem ef_fm (m : MethodId) (x0 : Int32) (x1 : Int32) : entryFrame m #[(.int x0), (.int x1)] 3 = mkF m 0 #[.val (.int x0), .val (.int x1), .unset] [] := by first | (simp [entryFrame, mkF, argsToLocals, Value.category]; done) | rfl
def Q_fm (Z : State) (p0 : Int32) (p1 : Int32) (h0 : Heap) (n0 : Nat) (v : Option Value) (h : Heap) (L : List Loc) : Prop := v = some (.int (f_fm p0 p1)) ∧ L = [] ∧ h = h0
set_option maxRecDepth 65536 in
set_option maxHeartbeats 40000000 in
theorem rm_fm (l : Launch) (Z : State) (a0 : Array Value) (hw : ∀ d ∈ tables_1, d.before a0 Z = true) (ws : List Jvm.Cond) (p0 : Int32) (p1 : Int32) (h0 : Heap) (n0 : Nat) (Z0 : n0 ≤ h0.size) (hnz : p1 ≠ (0 : Int32)) :
    MetFree l (⟨"java/lang/Math", "floorMod", "(II)I"⟩ : MethodName) (head1 (Jvm.Cond.code (⟨"java/lang/Math", "floorMod", "(II)I"⟩ : MethodName) jdk_29_method_50_code 3 (some .int) :: ws) ({ frames := 0, cells := 0, slots := 0, locals := 0 } : Room)) (fun a_ U => a_ = #[(.int p0), (.int p1)] ∧ Z.Warmed39 U.vm ∧ U.heap = h0) (fun _ _ _ _ _ => True) (fun _ U o U' => ∃ v L, o = .returned v ∧ Q_fm Z p0 p1 h0 n0 v U'.heap L ∧ FrameEnd U o U' L ({ frames := 0, cells := 0, slots := 0, locals := 0 } : Room).cells ({ frames := 0, cells := 0, slots := 0, locals := 0 } : Room).slots) := by
  refine MetFree.of_bodySF (Jvm.Free.JP.mathPlain rfl (by decide +kernel)) hisR ?_
  intro p e s m args below meth c s₁ Bd hml0 hP hK
  obtain ⟨rfl, hZ, hh⟩ := hP
  have hx := Bd.exec
  have hby := Bd.bytes
  have hlk : meth.locks = false := Bd.notSynchronized
  have hml : c.maxLocals = 3 := hml0
  have hown : s.vm.findClass "java/lang/Math" = some m.cls := findClass_of_methodNamed Bd.named
  have hnm := (name_of_methodNamed Bd.named Bd.method).1
  have X0 : Stand p l e ({ frames := 0, cells := 0, slots := 0, locals := 0 } : Room) s m #[(.int p0), (.int p1)] below meth c s₁ [] 0 0 := Stand.of_body Bd
  have e0 : s₁.heap = h0 := by rw [← hh, Bd.state]; rfl
  have N0 := Fr.nil n0
  have hv0 : f_fm p0 p1 = (if (p0 ^^^ p1) < (0 : Int32) then (if (p0 % p1) = (0 : Int32) then (p0 % p1) else ((p0 % p1) + p1)) else (p0 % p1)) := rfl
  show OGets p e below (OLeaves s (Q_fm Z p0 p1 h0 n0 ) ({ frames := 0, cells := 0, slots := 0, locals := 0 } : Room).cells ({ frames := 0, cells := 0, slots := 0, locals := 0 } : Room).slots) _
  refine OGets.enter (ef_fm m p0 p1) ?_
  show OGets p e below _ (s₁.setTop (mkF m 0 #[.val (.int p0), .val (.int p1), .unset] []))
  refine OGets.step (fun _ => XS.iloadN X0.here hx rfl (hb hby dj29m50_0) rfl) ?_
  refine OGets.step (fun _ => XS.iloadN X0.here hx rfl (hb hby dj29m50_1) rfl) ?_
  refine OGets.step (fun _ => iremM (g := (mkF m 2 #[.val (.int p0), .val (.int p1), .unset] [(.int p1), (.int p0)])) X0 hx rfl (hb hby dj29m50_2) rfl hnz) ?_
  refine OGets.step (fun _ => XS.istoreN X0.here hx rfl (hb hby dj29m50_3) rfl (l' := #[.val (.int p0), .val (.int p1), .val (.int (p0 % p1))]) rfl) ?_
  refine OGets.step (fun _ => XS.iloadN X0.here hx rfl (hb hby dj29m50_4) rfl) ?_
  refine OGets.step (fun _ => XS.iloadN X0.here hx rfl (hb hby dj29m50_5) rfl) ?_
  refine OGets.step (fun _ => XS.ixor X0.here hx rfl (hb hby dj29m50_6) rfl) ?_
  by_cases hc7_271 : (p0 ^^^ p1) < (0 : Int32)
  · refine OGets.step (fun _ => XS.ifNo X0.here hx rfl (hb hby dj29m50_7) rfl ((if0 _ _).trans (tlt hc7_271).2.1)) ?_
    have hv272 := hv0.trans (if_pos hc7_271)
    show OGets p e below _ (s₁.setTop (mkF m 10 #[.val (.int p0), .val (.int p1), .val (.int (p0 % p1))] []))
    refine OGets.step (fun _ => XS.iloadN X0.here hx rfl (hb hby dj29m50_10) rfl) ?_
    by_cases hc11_273 : (p0 % p1) = (0 : Int32)
    · refine OGets.step (fun _ => XS.ifYes X0.here hx rfl (pc0 := 11) (pc' := 18) rfl (hb hby dj29m50_11) rfl ((if0 _ _).trans (teq hc11_273).1) (by decide) (by decide)) ?_
      have hv274 := hv272.trans (if_pos hc11_273)
      show OGets p e below _ (s₁.setTop (mkF m 18 #[.val (.int p0), .val (.int p1), .val (.int (p0 % p1))] []))
      refine OGets.step (fun _ => XS.iloadN X0.here hx rfl (hb hby dj29m50_18) rfl) ?_
      refine OGets.retI X0 hx hlk Bd.returns (hb hby dj29m50_19) (Nat.le_of_ble_eq_true rfl) (Nat.le_of_ble_eq_true rfl) ?_
      exact ⟨congrArg (fun z => some (Value.int z)) hv274.symm, rfl, e0⟩
    · refine OGets.step (fun _ => XS.ifNo X0.here hx rfl (hb hby dj29m50_11) rfl ((if0 _ _).trans (feq hc11_273).1)) ?_
      have hv275 := hv272.trans (if_neg hc11_273)
      show OGets p e below _ (s₁.setTop (mkF m 14 #[.val (.int p0), .val (.int p1), .val (.int (p0 % p1))] []))
      refine OGets.step (fun _ => XS.iloadN X0.here hx rfl (hb hby dj29m50_14) rfl) ?_
      refine OGets.step (fun _ => XS.iloadN X0.here hx rfl (hb hby dj29m50_15) rfl) ?_
      refine OGets.step (fun _ => XS.iadd X0.here hx rfl (hb hby dj29m50_16) rfl) ?_
      refine OGets.retI X0 hx hlk Bd.returns (hb hby dj29m50_17) (Nat.le_of_ble_eq_true rfl) (Nat.le_of_ble_eq_true rfl) ?_
      exact ⟨congrArg (fun z => some (Value.int z)) hv275.symm, rfl, e0⟩
  · refine OGets.step (fun _ => XS.ifYes X0.here hx rfl (pc0 := 7) (pc' := 18) rfl (hb hby dj29m50_7) rfl ((if0 _ _).trans (flt hc7_271).2.1) (by decide) (by decide)) ?_
    have hv276 := hv0.trans (if_neg hc7_271)
    show OGets p e below _ (s₁.setTop (mkF m 18 #[.val (.int p0), .val (.int p1), .val (.int (p0 % p1))] []))
    refine OGets.step (fun _ => XS.iloadN X0.here hx rfl (hb hby dj29m50_18) rfl) ?_
    refine OGets.retI X0 hx hlk Bd.returns (hb hby dj29m50_19) (Nat.le_of_ble_eq_true rfl) (Nat.le_of_ble_eq_true rfl) ?_
    exact ⟨congrArg (fun z => some (Value.int z)) hv276.symm, rfl, e0⟩
def f_mn (p0 : Int64) (p1 : Int64) : Int64 := (if p1 < p0 then p1 else p0)
theorem dj29m70_0 : decode jdk_29_method_70_code 0 = .ok (.lload_n 0, 1) := by decide +kernel
theorem dj29m70_1 : decode jdk_29_method_70_code 1 = .ok (.lload_n 2, 1) := by decide +kernel
theorem dj29m70_2 : decode jdk_29_method_70_code 2 = .ok (.lcmp, 1) := by decide +kernel
theorem dj29m70_3 : decode jdk_29_method_70_code 3 = .ok (.ifCond .gt 7, 3) := by decide +kernel
theorem dj29m70_10 : decode jdk_29_method_70_code 10 = .ok (.lload_n 2, 1) := by decide +kernel
theorem dj29m70_11 : decode jdk_29_method_70_code 11 = .ok (.lreturn, 1) := by decide +kernel
theorem dj29m70_6 : decode jdk_29_method_70_code 6 = .ok (.lload_n 0, 1) := by decide +kernel
theorem dj29m70_7 : decode jdk_29_method_70_code 7 = .ok (.goto 4, 3) := by decide +kernel
theorem ef_mn (m : MethodId) (x0 : Int64) (x1 : Int64) : entryFrame m #[(.long x0), (.long x1)] 4 = mkF m 0 #[.val (.long x0), .second, .val (.long x1), .second] [] := by first | (simp [entryFrame, mkF, argsToLocals, Value.category]; done) | rfl
def Q_mn (Z : State) (p0 : Int64) (p1 : Int64) (h0 : Heap) (n0 : Nat) (v : Option Value) (h : Heap) (L : List Loc) : Prop := v = some (.long (f_mn p0 p1)) ∧ L = [] ∧ h = h0
set_option maxRecDepth 65536 in
set_option maxHeartbeats 40000000 in
theorem rm_mn (l : Launch) (Z : State) (a0 : Array Value) (hw : ∀ d ∈ tables_1, d.before a0 Z = true) (ws : List Jvm.Cond) (p0 : Int64) (p1 : Int64) (h0 : Heap) (n0 : Nat) (Z0 : n0 ≤ h0.size) :
    MetFree l (⟨"java/lang/Math", "min", "(JJ)J"⟩ : MethodName) (head1 (Jvm.Cond.code (⟨"java/lang/Math", "min", "(JJ)J"⟩ : MethodName) jdk_29_method_70_code 4 (some .long) :: ws) ({ frames := 0, cells := 0, slots := 0, locals := 0 } : Room)) (fun a_ U => a_ = #[(.long p0), (.long p1)] ∧ Z.Warmed39 U.vm ∧ U.heap = h0) (fun _ _ _ _ _ => True) (fun _ U o U' => ∃ v L, o = .returned v ∧ Q_mn Z p0 p1 h0 n0 v U'.heap L ∧ FrameEnd U o U' L ({ frames := 0, cells := 0, slots := 0, locals := 0 } : Room).cells ({ frames := 0, cells := 0, slots := 0, locals := 0 } : Room).slots) := by
  refine MetFree.of_bodySF (Jvm.Free.JP.mathPlain rfl (by decide +kernel)) hisR ?_
  intro p e s m args below meth c s₁ Bd hml0 hP hK
  obtain ⟨rfl, hZ, hh⟩ := hP
  have hx := Bd.exec
  have hby := Bd.bytes
  have hlk : meth.locks = false := Bd.notSynchronized
  have hml : c.maxLocals = 4 := hml0
  have hown : s.vm.findClass "java/lang/Math" = some m.cls := findClass_of_methodNamed Bd.named
  have hnm := (name_of_methodNamed Bd.named Bd.method).1
  have X0 : Stand p l e ({ frames := 0, cells := 0, slots := 0, locals := 0 } : Room) s m #[(.long p0), (.long p1)] below meth c s₁ [] 0 0 := Stand.of_body Bd
  have e0 : s₁.heap = h0 := by rw [← hh, Bd.state]; rfl
  have N0 := Fr.nil n0
  have hv0 : f_mn p0 p1 = (if p1 < p0 then p1 else p0) := rfl
  show OGets p e below (OLeaves s (Q_mn Z p0 p1 h0 n0 ) ({ frames := 0, cells := 0, slots := 0, locals := 0 } : Room).cells ({ frames := 0, cells := 0, slots := 0, locals := 0 } : Room).slots) _
  refine OGets.enter (ef_mn m p0 p1) ?_
  show OGets p e below _ (s₁.setTop (mkF m 0 #[.val (.long p0), .second, .val (.long p1), .second] []))
  refine OGets.step (fun _ => XS.lloadN X0.here hx rfl (hb hby dj29m70_0) rfl) ?_
  refine OGets.step (fun _ => XS.lloadN X0.here hx rfl (hb hby dj29m70_1) rfl) ?_
  refine OGets.step (fun _ => XS.lcmp X0.here hx rfl (hb hby dj29m70_2) rfl) ?_
  by_cases hc3_277 : p1 < p0
  · refine OGets.step (fun _ => XS.ifYes X0.here hx rfl (pc0 := 3) (pc' := 10) rfl (hb hby dj29m70_3) rfl ((if0 _ _).trans (tlt ((lw_gt _ _).mpr hc3_277)).2.2.1) (by decide) (by decide)) ?_
    have hv278 := hv0.trans (if_pos hc3_277)
    show OGets p e below _ (s₁.setTop (mkF m 10 #[.val (.long p0), .second, .val (.long p1), .second] []))
    refine OGets.step (fun _ => XS.lloadN X0.here hx rfl (hb hby dj29m70_10) rfl) ?_
    refine OGets.retJ X0 hx hlk Bd.returns (hb hby dj29m70_11) (Nat.le_of_ble_eq_true rfl) (Nat.le_of_ble_eq_true rfl) ?_
    exact ⟨congrArg (fun z => some (Value.long z)) hv278.symm, rfl, e0⟩
  · refine OGets.step (fun _ => XS.ifNo X0.here hx rfl (hb hby dj29m70_3) rfl ((if0 _ _).trans (flt (fun q => hc3_277 ((lw_gt _ _).mp q))).2.2.1)) ?_
    have hv279 := hv0.trans (if_neg hc3_277)
    show OGets p e below _ (s₁.setTop (mkF m 6 #[.val (.long p0), .second, .val (.long p1), .second] []))
    refine OGets.step (fun _ => XS.lloadN X0.here hx rfl (hb hby dj29m70_6) rfl) ?_
    refine OGets.step (fun _ => XS.goto X0.here hx rfl (pc0 := 7) (pc' := 11) rfl (hb hby dj29m70_7) (by decide) (by decide)) ?_
    refine OGets.retJ X0 hx hlk Bd.returns (hb hby dj29m70_11) (Nat.le_of_ble_eq_true rfl) (Nat.le_of_ble_eq_true rfl) ?_
    exact ⟨congrArg (fun z => some (Value.long z)) hv279.symm, rfl, e0⟩
def offF (per lo ph : Int32) : Int64 := (f_fm (lo - ph) per).toInt64
def nxF (per lo ph : Int32) : Int64 := if offF per lo ph = 0 then lo.toInt64 else lo.toInt64 - offF per lo ph + per.toInt64
def cnF (per lo hi ph wd : Int32) : Int64 := if hi.toInt64 < nxF per lo ph + wd.toInt64 - 1 then 0 else ((hi - wd + 1).toInt64 - nxF per lo ph) / per.toInt64 + 1
def afF (per lo hi ph wd : Int32) : Int64 := nxF per lo ph + cnF per lo hi ph wd * per.toInt64
def m1F (per lo hi ph wd : Int32) : Int32 := (f_mn (lo.toInt64 - offF per lo ph + wd.toInt64 - 1) hi.toInt64).toInt32
def Dom (per lo hi ph wd : Int32) : Prop := ∃ (a : Fin 6) (b c : Fin 5) (d e : Fin 6), d.1 ≤ a.1 ∧ e.1 ≤ a.1 ∧ per = Int32.ofNat (a.1 + 1) ∧ lo = Int32.ofNat b.1 ∧ hi = Int32.ofNat c.1 ∧ ph = Int32.ofNat d.1 ∧ wd = Int32.ofNat (e.1 + 1)
def rgOk (lo hi : Int32) : Prop := inb 5 hi ∧ ((0 : Int32) < lo → inb 5 (lo - 1))
instance (lo hi : Int32) : Decidable (rgOk lo hi) := by unfold rgOk; exact inferInstance
def Fcts (per lo hi ph wd : Int32) : Prop := rgOk lo hi ∧ per ≠ 0 ∧ per.toInt64 ≠ 0 ∧ (¬ hi < lo → ¬ per = 1 → wd < per →
  ((0 : Int64) < offF per lo ph → offF per lo ph < wd.toInt64 → rgOk lo (m1F per lo hi ph wd)) ∧
  (¬ ((1 : Int32) < per ∧ per < (5 : Int32)) → ¬ (1 : Int64) < cnF per lo hi ph wd) ∧
  (cnF per lo hi ph wd = 1 → rgOk (nxF per lo ph).toInt32 ((nxF per lo ph).toInt32 + wd - 1)) ∧
  ((1 : Int64) < cnF per lo hi ph wd → bkOk per wd (nxF per lo ph).toInt32 (cnF per lo hi ph wd).toInt32) ∧
  (¬ hi.toInt64 < afF per lo hi ph wd → rgOk (afF per lo hi ph wd).toInt32 hi))
instance (per lo hi ph wd : Int32) : Decidable (Fcts per lo hi ph wd) := by unfold Fcts; exact inferInstance
theorem own_dom {P : Int32 → Int32 → Int32 → Int32 → Int32 → Prop} (h : ∀ (a : Fin 6) (b c : Fin 5) (d e : Fin 6), d.1 ≤ a.1 → e.1 ≤ a.1 → P (Int32.ofNat (a.1 + 1)) (Int32.ofNat b.1) (Int32.ofNat c.1) (Int32.ofNat d.1) (Int32.ofNat (e.1 + 1))) {per lo hi ph wd : Int32} (H : Dom per lo hi ph wd) : P per lo hi ph wd := by
  obtain ⟨a, b, c, d, e, h1, h2, rfl, rfl, rfl, rfl, rfl⟩ := H
  exact h a b c d e h1 h2
set_option maxRecDepth 65536 in
theorem own_fcts : ∀ (a : Fin 6) (b c : Fin 5) (d e : Fin 6), d.1 ≤ a.1 → e.1 ≤ a.1 → Fcts (Int32.ofNat (a.1 + 1)) (Int32.ofNat b.1) (Int32.ofNat c.1) (Int32.ofNat d.1) (Int32.ofNat (e.1 + 1)) := by decide +kernel
theorem Dom.f {per lo hi ph wd : Int32} (H : Dom per lo hi ph wd) : Fcts per lo hi ph wd := own_dom own_fcts H
def s1F (per lo hi ph wd : Int32) (C : List Int32) : List Int32 := if (0 : Int64) < offF per lo ph then (if offF per lo ph < wd.toInt64 then rgF C lo (m1F per lo hi ph wd) else C) else C
def s3F (per lo hi ph wd : Int32) (C : List Int32) : List Int32 := if hi.toInt64 < afF per lo hi ph wd then C else rgF C (afF per lo hi ph wd).toInt32 hi
def s2N (per lo hi ph wd : Int32) (C : List Int32) : List Int32 := if cnF per lo hi ph wd = 1 then rgF C (nxF per lo ph).toInt32 ((nxF per lo ph).toInt32 + wd - 1) else C
def s2B (per lo hi ph wd : Int32) (C B : List Int32) : List Int32 × List Int32 := if (1 : Int64) < cnF per lo hi ph wd then (C, bkF B per wd (nxF per lo ph).toInt32 (cnF per lo hi ph wd).toInt32) else (s2N per lo hi ph wd C, B)
def t3B (per lo hi ph wd : Int32) (q : List Int32 × List Int32) : List Int32 × List Int32 := (s3F per lo hi ph wd q.1, q.2)
def spN (per lo hi ph wd : Int32) (C : List Int32) : List Int32 := if hi < lo then C else if per = 1 then rgF C lo hi else if wd < per then s3F per lo hi ph wd (s2N per lo hi ph wd (s1F per lo hi ph wd C)) else rgF C lo hi
def spB (per lo hi ph wd : Int32) (C B : List Int32) : List Int32 × List Int32 := if hi < lo then (C, B) else if per = 1 then (rgF C lo hi, B) else if wd < per then t3B per lo hi ph wd (s2B per lo hi ph wd (s1F per lo hi ph wd C) B) else (rgF C lo hi, B)
theorem s1F_len (per lo hi ph wd : Int32) (C : List Int32) : (s1F per lo hi ph wd C).length = C.length := by unfold s1F; split <;> (try split) <;> simp [rgF_len]
theorem s3F_len (per lo hi ph wd : Int32) (C : List Int32) : (s3F per lo hi ph wd C).length = C.length := by unfold s3F; split <;> simp [rgF_len]
theorem s2N_len (per lo hi ph wd : Int32) (C : List Int32) : (s2N per lo hi ph wd C).length = C.length := by unfold s2N; split <;> simp [rgF_len]
theorem spN_len (per lo hi ph wd : Int32) (C : List Int32) : (spN per lo hi ph wd C).length = C.length := by unfold spN; (repeat' split) <;> simp [rgF_len, s3F_len, s2N_len, s1F_len]
theorem spB_len (per lo hi ph wd : Int32) (C B : List Int32) : (spB per lo hi ph wd C B).1.length = C.length ∧ (spB per lo hi ph wd C B).2.length = B.length := by unfold spB t3B s2B; (repeat' split) <;> simp [rgF_len, s3F_len, s2N_len, s1F_len, bkF_len]
theorem s2B_len1 (per lo hi ph wd : Int32) (C B : List Int32) : (s2B per lo hi ph wd C B).1.length = C.length := by unfold s2B; split <;> simp [s2N_len]
theorem s2B_len2 (per lo hi ph wd : Int32) (C B : List Int32) : (s2B per lo hi ph wd C B).2.length = B.length := by unfold s2B; split <;> simp [bkF_len]
theorem d84m8_0 : decode prog_84_method_8_code 0 = .ok (.lconst 0, 1) := by decide +kernel
theorem d84m8_1 : decode prog_84_method_8_code 1 = .ok (.lstore_n 2, 1) := by decide +kernel
theorem d84m8_2 : decode prog_84_method_8_code 2 = .ok (.aload_n 0, 1) := by decide +kernel
theorem d84m8_3 : decode prog_84_method_8_code 3 = .ok (.getfield 7, 3) := by decide +kernel
theorem d84m8_6 : decode prog_84_method_8_code 6 = .ok (.aload_n 0, 1) := by decide +kernel
theorem d84m8_7 : decode prog_84_method_8_code 7 = .ok (.getfield 13, 3) := by decide +kernel
theorem d84m8_10 : decode prog_84_method_8_code 10 = .ok (.if_icmp .gt 40, 3) := by decide +kernel
theorem d84m8_50 : decode prog_84_method_8_code 50 = .ok (.aload_n 0, 1) := by decide +kernel
theorem d84m8_51 : decode prog_84_method_8_code 51 = .ok (.getfield 7, 3) := by decide +kernel
theorem d84m8_54 : decode prog_84_method_8_code 54 = .ok (.aload_n 0, 1) := by decide +kernel
theorem d84m8_55 : decode prog_84_method_8_code 55 = .ok (.getfield 13, 3) := by decide +kernel
theorem d84m8_58 : decode prog_84_method_8_code 58 = .ok (.if_icmp .gt 251, 3) := by decide +kernel
theorem d84m8_309 : decode prog_84_method_8_code 309 = .ok (.lload_n 2, 1) := by decide +kernel
theorem d84m8_310 : decode prog_84_method_8_code 310 = .ok (.lreturn, 1) := by decide +kernel
theorem d84m8_13 : decode prog_84_method_8_code 13 = .ok (.aload_n 0, 1) := by decide +kernel
theorem d84m8_14 : decode prog_84_method_8_code 14 = .ok (.getfield 16, 3) := by decide +kernel
theorem d84m8_17 : decode prog_84_method_8_code 17 = .ok (.iconst 1, 1) := by decide +kernel
theorem d84m8_18 : decode prog_84_method_8_code 18 = .ok (.if_icmp .eq 14, 3) := by decide +kernel
theorem d84m8_32 : decode prog_84_method_8_code 32 = .ok (.aload_n 1, 1) := by decide +kernel
theorem d84m8_33 : decode prog_84_method_8_code 33 = .ok (.aload_n 0, 1) := by decide +kernel
theorem d84m8_34 : decode prog_84_method_8_code 34 = .ok (.getfield 7, 3) := by decide +kernel
theorem d84m8_37 : decode prog_84_method_8_code 37 = .ok (.aload_n 0, 1) := by decide +kernel
theorem d84m8_38 : decode prog_84_method_8_code 38 = .ok (.getfield 13, 3) := by decide +kernel
theorem d84m8_41 : decode prog_84_method_8_code 41 = .ok (.invokeinterface 40 3, 5) := by decide +kernel
theorem pd_7 : parseMethodDescriptor "(II)J" = some ⟨[.int, .int], some .long⟩ := by decide +kernel
theorem d84m8_46 : decode prog_84_method_8_code 46 = .ok (.lstore_n 2, 1) := by decide +kernel
theorem d84m8_47 : decode prog_84_method_8_code 47 = .ok (.goto 262, 3) := by decide +kernel
theorem d84m8_21 : decode prog_84_method_8_code 21 = .ok (.aload_n 0, 1) := by decide +kernel
theorem d84m8_22 : decode prog_84_method_8_code 22 = .ok (.getfield 22, 3) := by decide +kernel
theorem d84m8_25 : decode prog_84_method_8_code 25 = .ok (.aload_n 0, 1) := by decide +kernel
theorem d84m8_26 : decode prog_84_method_8_code 26 = .ok (.getfield 16, 3) := by decide +kernel
theorem d84m8_29 : decode prog_84_method_8_code 29 = .ok (.if_icmp .lt 21, 3) := by decide +kernel
theorem d84m8_61 : decode prog_84_method_8_code 61 = .ok (.aload_n 0, 1) := by decide +kernel
theorem d84m8_62 : decode prog_84_method_8_code 62 = .ok (.getfield 7, 3) := by decide +kernel
theorem d84m8_65 : decode prog_84_method_8_code 65 = .ok (.aload_n 0, 1) := by decide +kernel
theorem d84m8_66 : decode prog_84_method_8_code 66 = .ok (.getfield 19, 3) := by decide +kernel
theorem d84m8_69 : decode prog_84_method_8_code 69 = .ok (.isub, 1) := by decide +kernel
theorem d84m8_70 : decode prog_84_method_8_code 70 = .ok (.aload_n 0, 1) := by decide +kernel
theorem d84m8_71 : decode prog_84_method_8_code 71 = .ok (.getfield 16, 3) := by decide +kernel
theorem d84m8_74 : decode prog_84_method_8_code 74 = .ok (.invokestatic 28, 3) := by decide +kernel
theorem pd_8 : parseMethodDescriptor "(II)I" = some ⟨[.int, .int], some .int⟩ := by decide +kernel
theorem d84m8_77 : decode prog_84_method_8_code 77 = .ok (.i2l, 1) := by decide +kernel
theorem d84m8_78 : decode prog_84_method_8_code 78 = .ok (.lstore 4, 2) := by decide +kernel
theorem d84m8_109 : decode prog_84_method_8_code 109 = .ok (.lstore 6, 2) := by decide +kernel
theorem d84m8_157 : decode prog_84_method_8_code 157 = .ok (.lstore 8, 2) := by decide +kernel
theorem d84m8_159 : decode prog_84_method_8_code 159 = .ok (.lload 6, 2) := by decide +kernel
theorem d84m8_161 : decode prog_84_method_8_code 161 = .ok (.lload 8, 2) := by decide +kernel
theorem d84m8_163 : decode prog_84_method_8_code 163 = .ok (.aload_n 0, 1) := by decide +kernel
theorem d84m8_164 : decode prog_84_method_8_code 164 = .ok (.getfield 16, 3) := by decide +kernel
theorem d84m8_167 : decode prog_84_method_8_code 167 = .ok (.i2l, 1) := by decide +kernel
theorem d84m8_168 : decode prog_84_method_8_code 168 = .ok (.lmul, 1) := by decide +kernel
theorem d84m8_169 : decode prog_84_method_8_code 169 = .ok (.ladd, 1) := by decide +kernel
theorem d84m8_170 : decode prog_84_method_8_code 170 = .ok (.lstore 10, 2) := by decide +kernel
theorem d84m8_282 : decode prog_84_method_8_code 282 = .ok (.lload 10, 2) := by decide +kernel
theorem d84m8_284 : decode prog_84_method_8_code 284 = .ok (.aload_n 0, 1) := by decide +kernel
theorem d84m8_285 : decode prog_84_method_8_code 285 = .ok (.getfield 13, 3) := by decide +kernel
theorem d84m8_288 : decode prog_84_method_8_code 288 = .ok (.i2l, 1) := by decide +kernel
theorem d84m8_289 : decode prog_84_method_8_code 289 = .ok (.lcmp, 1) := by decide +kernel
theorem d84m8_290 : decode prog_84_method_8_code 290 = .ok (.ifCond .gt 19, 3) := by decide +kernel
theorem d84m8_293 : decode prog_84_method_8_code 293 = .ok (.lload_n 2, 1) := by decide +kernel
theorem d84m8_294 : decode prog_84_method_8_code 294 = .ok (.aload_n 1, 1) := by decide +kernel
theorem d84m8_295 : decode prog_84_method_8_code 295 = .ok (.lload 10, 2) := by decide +kernel
theorem d84m8_297 : decode prog_84_method_8_code 297 = .ok (.l2i, 1) := by decide +kernel
theorem d84m8_298 : decode prog_84_method_8_code 298 = .ok (.aload_n 0, 1) := by decide +kernel
theorem d84m8_299 : decode prog_84_method_8_code 299 = .ok (.getfield 13, 3) := by decide +kernel
theorem d84m8_302 : decode prog_84_method_8_code 302 = .ok (.invokeinterface 40 3, 5) := by decide +kernel
theorem d84m8_307 : decode prog_84_method_8_code 307 = .ok (.ladd, 1) := by decide +kernel
theorem d84m8_308 : decode prog_84_method_8_code 308 = .ok (.lstore_n 2, 1) := by decide +kernel
theorem d84m8_228 : decode prog_84_method_8_code 228 = .ok (.lload 8, 2) := by decide +kernel
theorem d84m8_230 : decode prog_84_method_8_code 230 = .ok (.lconst 1, 1) := by decide +kernel
theorem d84m8_231 : decode prog_84_method_8_code 231 = .ok (.lcmp, 1) := by decide +kernel
theorem d84m8_232 : decode prog_84_method_8_code 232 = .ok (.ifCond .le 21, 3) := by decide +kernel
theorem d84m8_253 : decode prog_84_method_8_code 253 = .ok (.lload 8, 2) := by decide +kernel
theorem d84m8_255 : decode prog_84_method_8_code 255 = .ok (.lconst 1, 1) := by decide +kernel
theorem d84m8_256 : decode prog_84_method_8_code 256 = .ok (.lcmp, 1) := by decide +kernel
theorem d84m8_257 : decode prog_84_method_8_code 257 = .ok (.ifCond .ne 25, 3) := by decide +kernel
theorem d84m8_260 : decode prog_84_method_8_code 260 = .ok (.lload_n 2, 1) := by decide +kernel
theorem d84m8_261 : decode prog_84_method_8_code 261 = .ok (.aload_n 1, 1) := by decide +kernel
theorem d84m8_262 : decode prog_84_method_8_code 262 = .ok (.lload 6, 2) := by decide +kernel
theorem d84m8_264 : decode prog_84_method_8_code 264 = .ok (.l2i, 1) := by decide +kernel
theorem d84m8_265 : decode prog_84_method_8_code 265 = .ok (.lload 6, 2) := by decide +kernel
theorem d84m8_267 : decode prog_84_method_8_code 267 = .ok (.l2i, 1) := by decide +kernel
theorem d84m8_268 : decode prog_84_method_8_code 268 = .ok (.aload_n 0, 1) := by decide +kernel
theorem d84m8_269 : decode prog_84_method_8_code 269 = .ok (.getfield 22, 3) := by decide +kernel
theorem d84m8_272 : decode prog_84_method_8_code 272 = .ok (.iadd, 1) := by decide +kernel
theorem d84m8_273 : decode prog_84_method_8_code 273 = .ok (.iconst 1, 1) := by decide +kernel
theorem d84m8_274 : decode prog_84_method_8_code 274 = .ok (.isub, 1) := by decide +kernel
theorem d84m8_275 : decode prog_84_method_8_code 275 = .ok (.invokeinterface 40 3, 5) := by decide +kernel
theorem d84m8_280 : decode prog_84_method_8_code 280 = .ok (.ladd, 1) := by decide +kernel
theorem d84m8_281 : decode prog_84_method_8_code 281 = .ok (.lstore_n 2, 1) := by decide +kernel
theorem d84m8_172 : decode prog_84_method_8_code 172 = .ok (.lload 4, 2) := by decide +kernel
theorem d84m8_174 : decode prog_84_method_8_code 174 = .ok (.lconst 0, 1) := by decide +kernel
theorem d84m8_175 : decode prog_84_method_8_code 175 = .ok (.lcmp, 1) := by decide +kernel
theorem d84m8_176 : decode prog_84_method_8_code 176 = .ok (.ifCond .le 52, 3) := by decide +kernel
theorem d84m8_179 : decode prog_84_method_8_code 179 = .ok (.lload 4, 2) := by decide +kernel
theorem d84m8_181 : decode prog_84_method_8_code 181 = .ok (.aload_n 0, 1) := by decide +kernel
theorem d84m8_182 : decode prog_84_method_8_code 182 = .ok (.getfield 22, 3) := by decide +kernel
theorem d84m8_185 : decode prog_84_method_8_code 185 = .ok (.i2l, 1) := by decide +kernel
theorem d84m8_186 : decode prog_84_method_8_code 186 = .ok (.lcmp, 1) := by decide +kernel
theorem d84m8_187 : decode prog_84_method_8_code 187 = .ok (.ifCond .ge 41, 3) := by decide +kernel
theorem d84m8_190 : decode prog_84_method_8_code 190 = .ok (.lload_n 2, 1) := by decide +kernel
theorem d84m8_191 : decode prog_84_method_8_code 191 = .ok (.aload_n 1, 1) := by decide +kernel
theorem d84m8_192 : decode prog_84_method_8_code 192 = .ok (.aload_n 0, 1) := by decide +kernel
theorem d84m8_193 : decode prog_84_method_8_code 193 = .ok (.getfield 7, 3) := by decide +kernel
theorem d84m8_196 : decode prog_84_method_8_code 196 = .ok (.aload_n 0, 1) := by decide +kernel
theorem d84m8_197 : decode prog_84_method_8_code 197 = .ok (.getfield 7, 3) := by decide +kernel
theorem d84m8_200 : decode prog_84_method_8_code 200 = .ok (.i2l, 1) := by decide +kernel
theorem d84m8_201 : decode prog_84_method_8_code 201 = .ok (.lload 4, 2) := by decide +kernel
theorem d84m8_203 : decode prog_84_method_8_code 203 = .ok (.lsub, 1) := by decide +kernel
theorem d84m8_204 : decode prog_84_method_8_code 204 = .ok (.aload_n 0, 1) := by decide +kernel
theorem d84m8_205 : decode prog_84_method_8_code 205 = .ok (.getfield 22, 3) := by decide +kernel
theorem d84m8_208 : decode prog_84_method_8_code 208 = .ok (.i2l, 1) := by decide +kernel
theorem d84m8_209 : decode prog_84_method_8_code 209 = .ok (.ladd, 1) := by decide +kernel
theorem d84m8_210 : decode prog_84_method_8_code 210 = .ok (.lconst 1, 1) := by decide +kernel
theorem d84m8_211 : decode prog_84_method_8_code 211 = .ok (.lsub, 1) := by decide +kernel
theorem d84m8_212 : decode prog_84_method_8_code 212 = .ok (.aload_n 0, 1) := by decide +kernel
theorem d84m8_213 : decode prog_84_method_8_code 213 = .ok (.getfield 13, 3) := by decide +kernel
theorem d84m8_216 : decode prog_84_method_8_code 216 = .ok (.i2l, 1) := by decide +kernel
theorem d84m8_217 : decode prog_84_method_8_code 217 = .ok (.invokestatic 46, 3) := by decide +kernel
theorem pd_9 : parseMethodDescriptor "(JJ)J" = some ⟨[.long, .long], some .long⟩ := by decide +kernel
theorem d84m8_220 : decode prog_84_method_8_code 220 = .ok (.l2i, 1) := by decide +kernel
theorem d84m8_221 : decode prog_84_method_8_code 221 = .ok (.invokeinterface 40 3, 5) := by decide +kernel
theorem d84m8_226 : decode prog_84_method_8_code 226 = .ok (.ladd, 1) := by decide +kernel
theorem d84m8_227 : decode prog_84_method_8_code 227 = .ok (.lstore_n 2, 1) := by decide +kernel
theorem d84m8_111 : decode prog_84_method_8_code 111 = .ok (.lload 6, 2) := by decide +kernel
theorem d84m8_113 : decode prog_84_method_8_code 113 = .ok (.aload_n 0, 1) := by decide +kernel
theorem d84m8_114 : decode prog_84_method_8_code 114 = .ok (.getfield 22, 3) := by decide +kernel
theorem d84m8_117 : decode prog_84_method_8_code 117 = .ok (.i2l, 1) := by decide +kernel
theorem d84m8_118 : decode prog_84_method_8_code 118 = .ok (.ladd, 1) := by decide +kernel
theorem d84m8_119 : decode prog_84_method_8_code 119 = .ok (.lconst 1, 1) := by decide +kernel
theorem d84m8_120 : decode prog_84_method_8_code 120 = .ok (.lsub, 1) := by decide +kernel
theorem d84m8_121 : decode prog_84_method_8_code 121 = .ok (.aload_n 0, 1) := by decide +kernel
theorem d84m8_122 : decode prog_84_method_8_code 122 = .ok (.getfield 13, 3) := by decide +kernel
theorem d84m8_125 : decode prog_84_method_8_code 125 = .ok (.i2l, 1) := by decide +kernel
theorem d84m8_126 : decode prog_84_method_8_code 126 = .ok (.lcmp, 1) := by decide +kernel
theorem d84m8_127 : decode prog_84_method_8_code 127 = .ok (.ifCond .gt 29, 3) := by decide +kernel
theorem d84m8_156 : decode prog_84_method_8_code 156 = .ok (.lconst 0, 1) := by decide +kernel
theorem d84m8_130 : decode prog_84_method_8_code 130 = .ok (.aload_n 0, 1) := by decide +kernel
theorem d84m8_131 : decode prog_84_method_8_code 131 = .ok (.getfield 13, 3) := by decide +kernel
theorem d84m8_134 : decode prog_84_method_8_code 134 = .ok (.aload_n 0, 1) := by decide +kernel
theorem d84m8_135 : decode prog_84_method_8_code 135 = .ok (.getfield 22, 3) := by decide +kernel
theorem d84m8_138 : decode prog_84_method_8_code 138 = .ok (.isub, 1) := by decide +kernel
theorem d84m8_139 : decode prog_84_method_8_code 139 = .ok (.iconst 1, 1) := by decide +kernel
theorem d84m8_140 : decode prog_84_method_8_code 140 = .ok (.iadd, 1) := by decide +kernel
theorem d84m8_141 : decode prog_84_method_8_code 141 = .ok (.i2l, 1) := by decide +kernel
theorem d84m8_142 : decode prog_84_method_8_code 142 = .ok (.lload 6, 2) := by decide +kernel
theorem d84m8_144 : decode prog_84_method_8_code 144 = .ok (.lsub, 1) := by decide +kernel
theorem d84m8_145 : decode prog_84_method_8_code 145 = .ok (.aload_n 0, 1) := by decide +kernel
theorem d84m8_146 : decode prog_84_method_8_code 146 = .ok (.getfield 16, 3) := by decide +kernel
theorem d84m8_149 : decode prog_84_method_8_code 149 = .ok (.i2l, 1) := by decide +kernel
theorem d84m8_150 : decode prog_84_method_8_code 150 = .ok (.ldiv, 1) := by decide +kernel
theorem d84m8_151 : decode prog_84_method_8_code 151 = .ok (.lconst 1, 1) := by decide +kernel
theorem d84m8_152 : decode prog_84_method_8_code 152 = .ok (.ladd, 1) := by decide +kernel
theorem d84m8_153 : decode prog_84_method_8_code 153 = .ok (.goto 4, 3) := by decide +kernel
theorem d84m8_80 : decode prog_84_method_8_code 80 = .ok (.lload 4, 2) := by decide +kernel
theorem d84m8_82 : decode prog_84_method_8_code 82 = .ok (.lconst 0, 1) := by decide +kernel
theorem d84m8_83 : decode prog_84_method_8_code 83 = .ok (.lcmp, 1) := by decide +kernel
theorem d84m8_84 : decode prog_84_method_8_code 84 = .ok (.ifCond .ne 11, 3) := by decide +kernel
theorem d84m8_87 : decode prog_84_method_8_code 87 = .ok (.aload_n 0, 1) := by decide +kernel
theorem d84m8_88 : decode prog_84_method_8_code 88 = .ok (.getfield 7, 3) := by decide +kernel
theorem d84m8_91 : decode prog_84_method_8_code 91 = .ok (.i2l, 1) := by decide +kernel
theorem d84m8_92 : decode prog_84_method_8_code 92 = .ok (.goto 17, 3) := by decide +kernel
theorem d84m8_95 : decode prog_84_method_8_code 95 = .ok (.aload_n 0, 1) := by decide +kernel
theorem d84m8_96 : decode prog_84_method_8_code 96 = .ok (.getfield 7, 3) := by decide +kernel
theorem d84m8_99 : decode prog_84_method_8_code 99 = .ok (.i2l, 1) := by decide +kernel
theorem d84m8_100 : decode prog_84_method_8_code 100 = .ok (.lload 4, 2) := by decide +kernel
theorem d84m8_102 : decode prog_84_method_8_code 102 = .ok (.lsub, 1) := by decide +kernel
theorem d84m8_103 : decode prog_84_method_8_code 103 = .ok (.aload_n 0, 1) := by decide +kernel
theorem d84m8_104 : decode prog_84_method_8_code 104 = .ok (.getfield 16, 3) := by decide +kernel
theorem d84m8_107 : decode prog_84_method_8_code 107 = .ok (.i2l, 1) := by decide +kernel
theorem d84m8_108 : decode prog_84_method_8_code 108 = .ok (.ladd, 1) := by decide +kernel
theorem ef_spN (m : MethodId) (x0 : Addr) (x1 : Addr) : entryFrame m #[(.ref x0), (.ref x1)] 12 = mkF m 0 #[.val (.ref x0), .val (.ref x1), .unset, .unset, .unset, .unset, .unset, .unset, .unset, .unset, .unset, .unset] [] := by first | (simp [entryFrame, mkF, argsToLocals, Value.category]; done) | rfl
def Q_spN (Z : State) (ax : Addr) (ao : Addr) (ast : Addr) (au : Addr) (ac : Addr) (lo : Int32) (hi : Int32) (per : Int32) (ph : Int32) (wd : Int32) (hg : Int32) (CC : List Int32) (h0 : Heap) (n0 : Nat) (F : List (Addr × OObj)) (v : Option Value) (h : Heap) (L : List Loc) : Prop := v = some (.long 0) ∧ Fr n0 L ∧ OView Z n0 h (oX ax [(.ref ao), (.ref ast)] :: oC ao [(.int per), (.ref au), (.ref ac), .null, .null, (.int hg)] :: oA ac (spN per lo hi ph wd CC) :: oS ast [(.int lo), (.int hi), (.int per), (.int ph), (.int wd)] :: F)
set_option maxRecDepth 65536 in
set_option maxHeartbeats 40000000 in
theorem rm_spN (l : Launch) (Z : State) (a0 : Array Value) (hw : ∀ d ∈ tables_1, d.before a0 Z = true) (ws : List Jvm.Cond) (ax : Addr) (ao : Addr) (ast : Addr) (au : Addr) (ac : Addr) (lo : Int32) (hi : Int32) (per : Int32) (ph : Int32) (wd : Int32) (hg : Int32) (CC : List Int32) (h0 : Heap) (n0 : Nat) (F : List (Addr × OObj)) (Z0 : n0 ≤ h0.size) (H : Dom per lo hi ph wd) (hN : ¬ ((1 : Int32) < per ∧ per < (5 : Int32))) (hlC : CC.length = 5) (V0 : OView Z n0 h0 (oX ax [(.ref ao), (.ref ast)] :: oC ao [(.int per), (.ref au), (.ref ac), .null, .null, (.int hg)] :: oA ac CC :: oS ast [(.int lo), (.int hi), (.int per), (.int ph), (.int wd)] :: F)) :
    MetFree l (⟨"com/example/pelt/pelt/Strand", "split", "(Lcom/example/pelt/pelt/Strand$Parts;)J"⟩ : MethodName) (head1 (Jvm.Cond.code (⟨"com/example/pelt/pelt/Strand", "split", "(Lcom/example/pelt/pelt/Strand$Parts;)J"⟩ : MethodName) prog_84_method_8_code 12 (some .long) :: ws) ({ frames := 1, cells := 0, slots := 0, locals := 19 } : Room)) (fun a_ U => a_ = #[(.ref ast), (.ref ax)] ∧ Z.Warmed39 U.vm ∧ U.heap = h0) (fun _ _ _ _ _ => True) (fun _ U o U' => ∃ v L, o = .returned v ∧ Q_spN Z ax ao ast au ac lo hi per ph wd hg CC h0 n0 F v U'.heap L ∧ FrameEnd U o U' L ({ frames := 1, cells := 0, slots := 0, locals := 19 } : Room).cells ({ frames := 1, cells := 0, slots := 0, locals := 19 } : Room).slots) := by
  refine MetFree.of_bodySF (plainFor_of_name pn_1) hisR ?_
  intro p e s m args below meth c s₁ Bd hml0 hP hK
  obtain ⟨rfl, hZ, hh⟩ := hP
  have hx := Bd.exec
  have hby := Bd.bytes
  have hlk : meth.locks = false := Bd.notSynchronized
  have hml : c.maxLocals = 12 := hml0
  have hown : s.vm.findClass "com/example/pelt/pelt/Strand" = some m.cls := findClass_of_methodNamed Bd.named
  have hnm := (name_of_methodNamed Bd.named Bd.method).1
  have X0 : Stand p l e ({ frames := 1, cells := 0, slots := 0, locals := 19 } : Room) s m #[(.ref ast), (.ref ax)] below meth c s₁ [] 0 0 := Stand.of_body Bd
  have e0 : s₁.heap = h0 := by rw [← hh, Bd.state]; rfl
  have N0 := Fr.nil n0
  show OGets p e below (OLeaves s (Q_spN Z ax ao ast au ac lo hi per ph wd hg CC h0 n0 F ) ({ frames := 1, cells := 0, slots := 0, locals := 19 } : Room).cells ({ frames := 1, cells := 0, slots := 0, locals := 19 } : Room).slots) _
  refine OGets.enter (ef_spN m ast ax) ?_
  show OGets p e below _ (s₁.setTop (mkF m 0 #[.val (.ref ast), .val (.ref ax), .unset, .unset, .unset, .unset, .unset, .unset, .unset, .unset, .unset, .unset] []))
  refine OGets.step (fun _ => XS.lconst X0.here hx rfl (hb hby d84m8_0)) ?_
  refine OGets.step (fun _ => XS.lstoreN X0.here hx rfl (hb hby d84m8_1) rfl (l' := #[.val (.ref ast), .val (.ref ax), .val (.long 0), .second, .unset, .unset, .unset, .unset, .unset, .unset, .unset, .unset]) rfl) ?_
  refine OGets.step (fun _ => XS.aloadN X0.here hx rfl (hb hby d84m8_2) rfl rfl) ?_
  obtain ⟨T280, X280, e280, st280⟩ := getF X0 hx hZ hown (host := "") (Or.inl (hw _ (List.mem_of_getElem? (i := 41) rfl))) Via.refl e0 (V0.fld 3 rfl 0 rfl rfl) (g := (mkF m 3 #[.val (.ref ast), .val (.ref ax), .val (.long 0), .second, .unset, .unset, .unset, .unset, .unset, .unset, .unset, .unset] [(.ref ast)])) rfl rfl (hb hby d84m8_3)
  refine OGets.step st280 ?_
  refine OGets.step (fun _ => XS.aloadN X280.here hx rfl (hb hby d84m8_6) rfl rfl) ?_
  obtain ⟨T281, X281, e281, st281⟩ := getF X280 hx hZ hown (host := "") (Or.inl (hw _ (List.mem_of_getElem? (i := 43) rfl))) Via.refl e280 (V0.fld 3 rfl 1 rfl rfl) (g := (mkF m 7 #[.val (.ref ast), .val (.ref ax), .val (.long 0), .second, .unset, .unset, .unset, .unset, .unset, .unset, .unset, .unset] [(.ref ast), (.int lo)])) rfl rfl (hb hby d84m8_7)
  refine OGets.step st281 ?_
  by_cases hc10_282 : hi < lo
  · refine OGets.step (fun _ => XS.icmpYes X281.here hx rfl (pc0 := 10) (pc' := 50) rfl (hb hby d84m8_10) rfl (tlt hc10_282).2.2.1 (by decide) (by decide)) ?_
    show OGets p e below _ (T281.setTop (mkF m 50 #[.val (.ref ast), .val (.ref ax), .val (.long 0), .second, .unset, .unset, .unset, .unset, .unset, .unset, .unset, .unset] []))
    refine OGets.step (fun _ => XS.aloadN X281.here hx rfl (hb hby d84m8_50) rfl rfl) ?_
    obtain ⟨T283, X283, e283, st283⟩ := getF X281 hx hZ hown (host := "") (Or.inl (hw _ (List.mem_of_getElem? (i := 41) rfl))) Via.refl e281 (V0.fld 3 rfl 0 rfl rfl) (g := (mkF m 51 #[.val (.ref ast), .val (.ref ax), .val (.long 0), .second, .unset, .unset, .unset, .unset, .unset, .unset, .unset, .unset] [(.ref ast)])) rfl rfl (hb hby d84m8_51)
    refine OGets.step st283 ?_
    refine OGets.step (fun _ => XS.aloadN X283.here hx rfl (hb hby d84m8_54) rfl rfl) ?_
    obtain ⟨T284, X284, e284, st284⟩ := getF X283 hx hZ hown (host := "") (Or.inl (hw _ (List.mem_of_getElem? (i := 43) rfl))) Via.refl e283 (V0.fld 3 rfl 1 rfl rfl) (g := (mkF m 55 #[.val (.ref ast), .val (.ref ax), .val (.long 0), .second, .unset, .unset, .unset, .unset, .unset, .unset, .unset, .unset] [(.ref ast), (.int lo)])) rfl rfl (hb hby d84m8_55)
    refine OGets.step st284 ?_
    refine OGets.step (fun _ => XS.icmpYes X284.here hx rfl (pc0 := 58) (pc' := 309) rfl (hb hby d84m8_58) rfl (tlt (hc10_282 : hi < lo)).2.2.1 (by decide) (by decide)) ?_
    refine OGets.step (fun _ => XS.lloadN X284.here hx rfl (hb hby d84m8_309) rfl) ?_
    refine OGets.retJ X284 hx hlk Bd.returns (hb hby d84m8_310) (Nat.le_of_ble_eq_true rfl) (Nat.le_of_ble_eq_true rfl) ?_
    have t1 : spN per lo hi ph wd CC = CC := if_pos hc10_282
    rw [e284]
    refine ⟨rfl, N0, ?_⟩
    rw [t1]
    exact V0
  · refine OGets.step (fun _ => XS.icmpNo X281.here hx rfl (hb hby d84m8_10) rfl (flt hc10_282).2.2.1) ?_
    show OGets p e below _ (T281.setTop (mkF m 13 #[.val (.ref ast), .val (.ref ax), .val (.long 0), .second, .unset, .unset, .unset, .unset, .unset, .unset, .unset, .unset] []))
    refine OGets.step (fun _ => XS.aloadN X281.here hx rfl (hb hby d84m8_13) rfl rfl) ?_
    obtain ⟨T286, X286, e286, st286⟩ := getF X281 hx hZ hown (host := "") (Or.inl (hw _ (List.mem_of_getElem? (i := 45) rfl))) Via.refl e281 (V0.fld 3 rfl 2 rfl rfl) (g := (mkF m 14 #[.val (.ref ast), .val (.ref ax), .val (.long 0), .second, .unset, .unset, .unset, .unset, .unset, .unset, .unset, .unset] [(.ref ast)])) rfl rfl (hb hby d84m8_14)
    refine OGets.step st286 ?_
    refine OGets.step (fun _ => XS.iconst X286.here hx rfl (hb hby d84m8_17)) ?_
    by_cases hc18_287 : per = (1 : Int32)
    · refine OGets.step (fun _ => XS.icmpYes X286.here hx rfl (pc0 := 18) (pc' := 32) rfl (hb hby d84m8_18) rfl (teq hc18_287).1 (by decide) (by decide)) ?_
      show OGets p e below _ (T286.setTop (mkF m 32 #[.val (.ref ast), .val (.ref ax), .val (.long 0), .second, .unset, .unset, .unset, .unset, .unset, .unset, .unset, .unset] []))
      refine OGets.step (fun _ => XS.aloadN X286.here hx rfl (hb hby d84m8_32) rfl rfl) ?_
      refine OGets.step (fun _ => XS.aloadN X286.here hx rfl (hb hby d84m8_33) rfl rfl) ?_
      obtain ⟨T288, X288, e288, st288⟩ := getF X286 hx hZ hown (host := "") (Or.inl (hw _ (List.mem_of_getElem? (i := 41) rfl))) Via.refl e286 (V0.fld 3 rfl 0 rfl rfl) (g := (mkF m 34 #[.val (.ref ast), .val (.ref ax), .val (.long 0), .second, .unset, .unset, .unset, .unset, .unset, .unset, .unset, .unset] [(.ref ast), (.ref ax)])) rfl rfl (hb hby d84m8_34)
      refine OGets.step st288 ?_
      refine OGets.step (fun _ => XS.aloadN X288.here hx rfl (hb hby d84m8_37) rfl rfl) ?_
      obtain ⟨T289, X289, e289, st289⟩ := getF X288 hx hZ hown (host := "") (Or.inl (hw _ (List.mem_of_getElem? (i := 43) rfl))) Via.refl e288 (V0.fld 3 rfl 1 rfl rfl) (g := (mkF m 38 #[.val (.ref ast), .val (.ref ax), .val (.long 0), .second, .unset, .unset, .unset, .unset, .unset, .unset, .unset, .unset] [(.ref ast), (.int lo), (.ref ax)])) rfl rfl (hb hby d84m8_38)
      refine OGets.step st289 ?_
      obtain ⟨cq290, kq290, q290a, q290b, q290c⟩ := isOf hZ e289 (V0.exa 0 rfl)
      obtain ⟨_, _, ⟨T290, L290, k290, n290⟩, -, X290, ⟨Lc290, hQ290, l290, y290, z290⟩, st290⟩ := X289.interfaceBack hx (xi := (⟨"com/example/pelt/pelt/Strand$Parts", "range", "(II)J"⟩ : MethodName)) (y := (⟨"com/example/pelt/pelt/StackCounts$2", "range", "(II)J"⟩ : MethodName)) hown (mvT hZ (hw _ (List.mem_of_getElem? (i := 90) rfl))) (mvT hZ (hw _ (List.mem_of_getElem? (i := 91) rfl))) (mvT hZ (hw _ (List.mem_of_getElem? (i := 92) rfl))) (mvT hZ (hw _ (List.mem_of_getElem? (i := 93) rfl))) (mvT hZ (hw _ (List.mem_of_getElem? (i := 94) rfl))) (mvT hZ (hw _ (List.mem_of_getElem? (i := 95) rfl))) (mvT hZ (hw _ (List.mem_of_getElem? (i := 96) rfl))) (mvT hZ (hw _ (List.mem_of_getElem? (i := 97) rfl))) (by decide) (backOf (W := 0) (rm_rg l Z a0 hw [] ax ao ast au ac .null .null per hg lo hi CC h0 n0 (oS ast [(.int lo), (.int hi), (.int per), (.int ph), (.int wd)] :: F) Z0 (by simp only [hlC]) H.f.1.1 H.f.1.2 V0) hZ (hw _ (List.mem_of_getElem? (i := 98) rfl)) (hw _ (List.mem_of_getElem? (i := 58) rfl)) (by decide) (by decide)) q290a q290b q290c (g := (mkF m 41 #[.val (.ref ast), .val (.ref ax), .val (.long 0), .second, .unset, .unset, .unset, .unset, .unset, .unset, .unset, .unset] [(.int hi), (.int lo), (.ref ax)])) rfl (by rw [hml]; rfl) (Steps.refl _) (argsL := [(.int lo), (.int hi)]) (rest := []) (lenOf pd_7 rfl) rfl (by show 2 * 0 + _ ≤ _; exact Nat.le_of_eq rfl) (hb hby d84m8_41) (fun _ _ => ⟨rfl, e289, Nat.le_of_ble_eq_true rfl, Nat.le_of_ble_eq_true rfl⟩)
      dsimp only [Pt.U, Pt.locs, Pt.cells, Pt.slots] at X290 l290 y290 z290 st290 hQ290
      rw [l290, y290, z290] at X290
      obtain ⟨rfl, N290q, V290⟩ := hQ290
      have N290 := Fr.app N0 N290q
      have V290v : OView Z n0 T290.heap (oX ax [(.ref ao), (.ref ast)] :: oC ao [(.int per), (.ref au), (.ref ac), .null, .null, (.int hg)] :: oA ac (rgF CC lo hi) :: oS ast [(.int lo), (.int hi), (.int per), (.int ph), (.int wd)] :: F) := V290
      have Z290 : n0 ≤ T290.heap.size := V290v.big 0 rfl
      refine OGets.after st290 ?_
      refine OGets.step (fun _ => XS.lstoreN X290.here hx rfl (hb hby d84m8_46) rfl (l' := #[.val (.ref ast), .val (.ref ax), .val (.long 0), .second, .unset, .unset, .unset, .unset, .unset, .unset, .unset, .unset]) rfl) ?_
      refine OGets.step (fun _ => XS.goto X290.here hx rfl (pc0 := 47) (pc' := 309) rfl (hb hby d84m8_47) (by decide) (by decide)) ?_
      refine OGets.step (fun _ => XS.lloadN X290.here hx rfl (hb hby d84m8_309) rfl) ?_
      refine OGets.retJ X290 hx hlk Bd.returns (hb hby d84m8_310) (Nat.le_of_ble_eq_true rfl) (Nat.le_of_ble_eq_true rfl) ?_
      have t1 : spN per lo hi ph wd CC = (rgF CC lo hi) := (if_neg hc10_282).trans (if_pos hc18_287)
      refine ⟨rfl, N290, ?_⟩
      rw [t1]
      exact V290v
    · refine OGets.step (fun _ => XS.icmpNo X286.here hx rfl (hb hby d84m8_18) rfl (feq hc18_287).1) ?_
      show OGets p e below _ (T286.setTop (mkF m 21 #[.val (.ref ast), .val (.ref ax), .val (.long 0), .second, .unset, .unset, .unset, .unset, .unset, .unset, .unset, .unset] []))
      refine OGets.step (fun _ => XS.aloadN X286.here hx rfl (hb hby d84m8_21) rfl rfl) ?_
      obtain ⟨T291, X291, e291, st291⟩ := getF X286 hx hZ hown (host := "") (Or.inl (hw _ (List.mem_of_getElem? (i := 49) rfl))) Via.refl e286 (V0.fld 3 rfl 4 rfl rfl) (g := (mkF m 22 #[.val (.ref ast), .val (.ref ax), .val (.long 0), .second, .unset, .unset, .unset, .unset, .unset, .unset, .unset, .unset] [(.ref ast)])) rfl rfl (hb hby d84m8_22)
      refine OGets.step st291 ?_
      refine OGets.step (fun _ => XS.aloadN X291.here hx rfl (hb hby d84m8_25) rfl rfl) ?_
      obtain ⟨T292, X292, e292, st292⟩ := getF X291 hx hZ hown (host := "") (Or.inl (hw _ (List.mem_of_getElem? (i := 45) rfl))) Via.refl e291 (V0.fld 3 rfl 2 rfl rfl) (g := (mkF m 26 #[.val (.ref ast), .val (.ref ax), .val (.long 0), .second, .unset, .unset, .unset, .unset, .unset, .unset, .unset, .unset] [(.ref ast), (.int wd)])) rfl rfl (hb hby d84m8_26)
      refine OGets.step st292 ?_
      by_cases hc29_293 : wd < per
      · refine OGets.step (fun _ => XS.icmpYes X292.here hx rfl (pc0 := 29) (pc' := 50) rfl (hb hby d84m8_29) rfl (tlt hc29_293).1 (by decide) (by decide)) ?_
        show OGets p e below _ (T292.setTop (mkF m 50 #[.val (.ref ast), .val (.ref ax), .val (.long 0), .second, .unset, .unset, .unset, .unset, .unset, .unset, .unset, .unset] []))
        refine OGets.step (fun _ => XS.aloadN X292.here hx rfl (hb hby d84m8_50) rfl rfl) ?_
        obtain ⟨T294, X294, e294, st294⟩ := getF X292 hx hZ hown (host := "") (Or.inl (hw _ (List.mem_of_getElem? (i := 41) rfl))) Via.refl e292 (V0.fld 3 rfl 0 rfl rfl) (g := (mkF m 51 #[.val (.ref ast), .val (.ref ax), .val (.long 0), .second, .unset, .unset, .unset, .unset, .unset, .unset, .unset, .unset] [(.ref ast)])) rfl rfl (hb hby d84m8_51)
        refine OGets.step st294 ?_
        refine OGets.step (fun _ => XS.aloadN X294.here hx rfl (hb hby d84m8_54) rfl rfl) ?_
        obtain ⟨T295, X295, e295, st295⟩ := getF X294 hx hZ hown (host := "") (Or.inl (hw _ (List.mem_of_getElem? (i := 43) rfl))) Via.refl e294 (V0.fld 3 rfl 1 rfl rfl) (g := (mkF m 55 #[.val (.ref ast), .val (.ref ax), .val (.long 0), .second, .unset, .unset, .unset, .unset, .unset, .unset, .unset, .unset] [(.ref ast), (.int lo)])) rfl rfl (hb hby d84m8_55)
        refine OGets.step st295 ?_
        refine OGets.step (fun _ => XS.icmpNo X295.here hx rfl (hb hby d84m8_58) rfl (flt (hc10_282 : ¬ (hi < lo))).2.2.1) ?_
        refine OGets.step (fun _ => XS.aloadN X295.here hx rfl (hb hby d84m8_61) rfl rfl) ?_
        obtain ⟨T297, X297, e297, st297⟩ := getF X295 hx hZ hown (host := "") (Or.inl (hw _ (List.mem_of_getElem? (i := 41) rfl))) Via.refl e295 (V0.fld 3 rfl 0 rfl rfl) (g := (mkF m 62 #[.val (.ref ast), .val (.ref ax), .val (.long 0), .second, .unset, .unset, .unset, .unset, .unset, .unset, .unset, .unset] [(.ref ast)])) rfl rfl (hb hby d84m8_62)
        refine OGets.step st297 ?_
        refine OGets.step (fun _ => XS.aloadN X297.here hx rfl (hb hby d84m8_65) rfl rfl) ?_
        obtain ⟨T298, X298, e298, st298⟩ := getF X297 hx hZ hown (host := "") (Or.inl (hw _ (List.mem_of_getElem? (i := 47) rfl))) Via.refl e297 (V0.fld 3 rfl 3 rfl rfl) (g := (mkF m 66 #[.val (.ref ast), .val (.ref ax), .val (.long 0), .second, .unset, .unset, .unset, .unset, .unset, .unset, .unset, .unset] [(.ref ast), (.int lo)])) rfl rfl (hb hby d84m8_66)
        refine OGets.step st298 ?_
        refine OGets.step (fun _ => XS.isub X298.here hx rfl (hb hby d84m8_69) rfl) ?_
        refine OGets.step (fun _ => XS.aloadN X298.here hx rfl (hb hby d84m8_70) rfl rfl) ?_
        obtain ⟨T299, X299, e299, st299⟩ := getF X298 hx hZ hown (host := "") (Or.inl (hw _ (List.mem_of_getElem? (i := 45) rfl))) Via.refl e298 (V0.fld 3 rfl 2 rfl rfl) (g := (mkF m 71 #[.val (.ref ast), .val (.ref ax), .val (.long 0), .second, .unset, .unset, .unset, .unset, .unset, .unset, .unset, .unset] [(.ref ast), (.int (lo - ph))])) rfl rfl (hb hby d84m8_71)
        refine OGets.step st299 ?_
        obtain ⟨_, _, ⟨T300, L300, k300, n300⟩, -, X300, ⟨Lc300, hQ300, l300, y300, z300⟩, st300⟩ := Jvm.LawKit.callS X299 hx (y := (⟨"java/lang/Math", "floorMod", "(II)I"⟩ : MethodName)) hown (mvT hZ (hw _ (List.mem_of_getElem? (i := 86) rfl))) (mvT hZ (hw _ (List.mem_of_getElem? (i := 87) rfl))) (mvT hZ (hw _ (List.mem_of_getElem? (i := 88) rfl))) (mvT hZ (hw _ (List.mem_of_getElem? (i := 89) rfl))) (by decide) (backOf (W := 0) (rm_fm l Z a0 hw [] (lo - ph) per h0 n0  Z0 H.f.2.1) hZ (hw _ (List.mem_of_getElem? (i := 89) rfl)) (hw _ (List.mem_of_getElem? (i := 88) rfl)) (by decide) (by decide)) (g := (mkF m 74 #[.val (.ref ast), .val (.ref ax), .val (.long 0), .second, .unset, .unset, .unset, .unset, .unset, .unset, .unset, .unset] [(.int per), (.int (lo - ph))])) rfl (by rw [hml]; rfl) (argsL := [(.int (lo - ph)), (.int per)]) (rest := []) (lenOf pd_8 rfl) rfl (by show 2 * 0 + _ ≤ _; exact Nat.le_of_eq rfl) (hb hby d84m8_74) (fun _ _ => ⟨rfl, e299, Nat.le_of_ble_eq_true rfl, Nat.le_of_ble_eq_true rfl⟩)
        dsimp only [Pt.U, Pt.locs, Pt.cells, Pt.slots] at X300 l300 y300 z300 st300 hQ300
        rw [l300, y300, z300] at X300
        obtain ⟨rfl, rfl, e300⟩ := hQ300
        have N300 := Fr.app N0 (Fr.nil n0)
        refine OGets.step st300 ?_
        refine OGets.step (fun _ => XS.i2l X300.here hx rfl (hb hby d84m8_77) rfl) ?_
        show OGets p e below _ (T300.setTop (mkF m 78 #[.val (.ref ast), .val (.ref ax), .val (.long 0), .second, .unset, .unset, .unset, .unset, .unset, .unset, .unset, .unset] [(.long (offF per lo ph))]))
        refine OGets.step (fun _ => XS.lstore X300.here hx rfl (hb hby d84m8_78) rfl (l' := #[.val (.ref ast), .val (.ref ax), .val (.long 0), .second, .val (.long (offF per lo ph)), .second, .unset, .unset, .unset, .unset, .unset, .unset]) rfl) ?_
        have K301 : ∀ (T301 : State) (lj301 : List Loc), Stand p l e ({ frames := 1, cells := 0, slots := 0, locals := 19 } : Room) s m #[(.ref ast), (.ref ax)] below meth c T301 lj301 0 0 → Fr n0 lj301 → n0 ≤ T301.heap.size → OView Z n0 T301.heap (oX ax [(.ref ao), (.ref ast)] :: oC ao [(.int per), (.ref au), (.ref ac), .null, .null, (.int hg)] :: oA ac CC :: oS ast [(.int lo), (.int hi), (.int per), (.int ph), (.int wd)] :: F) → OGets p e below (OLeaves s (Q_spN Z ax ao ast au ac lo hi per ph wd hg CC h0 n0 F ) ({ frames := 1, cells := 0, slots := 0, locals := 19 } : Room).cells ({ frames := 1, cells := 0, slots := 0, locals := 19 } : Room).slots) (T301.setTop (mkF m 109 #[.val (.ref ast), .val (.ref ax), .val (.long 0), .second, .val (.long (offF per lo ph)), .second, .unset, .unset, .unset, .unset, .unset, .unset] [(.long (nxF per lo ph))])) := by
          intro T301 lj301 X301 N301 Z301 V301
          show OGets p e below _ (T301.setTop (mkF m 109 #[.val (.ref ast), .val (.ref ax), .val (.long 0), .second, .val (.long (offF per lo ph)), .second, .unset, .unset, .unset, .unset, .unset, .unset] [(.long (nxF per lo ph))]))
          refine OGets.step (fun _ => XS.lstore X301.here hx rfl (hb hby d84m8_109) rfl (l' := #[.val (.ref ast), .val (.ref ax), .val (.long 0), .second, .val (.long (offF per lo ph)), .second, .val (.long (nxF per lo ph)), .second, .unset, .unset, .unset, .unset]) rfl) ?_
          have K302 : ∀ (T302 : State) (lj302 : List Loc), Stand p l e ({ frames := 1, cells := 0, slots := 0, locals := 19 } : Room) s m #[(.ref ast), (.ref ax)] below meth c T302 lj302 0 0 → Fr n0 lj302 → n0 ≤ T302.heap.size → OView Z n0 T302.heap (oX ax [(.ref ao), (.ref ast)] :: oC ao [(.int per), (.ref au), (.ref ac), .null, .null, (.int hg)] :: oA ac CC :: oS ast [(.int lo), (.int hi), (.int per), (.int ph), (.int wd)] :: F) → OGets p e below (OLeaves s (Q_spN Z ax ao ast au ac lo hi per ph wd hg CC h0 n0 F ) ({ frames := 1, cells := 0, slots := 0, locals := 19 } : Room).cells ({ frames := 1, cells := 0, slots := 0, locals := 19 } : Room).slots) (T302.setTop (mkF m 157 #[.val (.ref ast), .val (.ref ax), .val (.long 0), .second, .val (.long (offF per lo ph)), .second, .val (.long (nxF per lo ph)), .second, .unset, .unset, .unset, .unset] [(.long (cnF per lo hi ph wd))])) := by
            intro T302 lj302 X302 N302 Z302 V302
            show OGets p e below _ (T302.setTop (mkF m 157 #[.val (.ref ast), .val (.ref ax), .val (.long 0), .second, .val (.long (offF per lo ph)), .second, .val (.long (nxF per lo ph)), .second, .unset, .unset, .unset, .unset] [(.long (cnF per lo hi ph wd))]))
            refine OGets.step (fun _ => XS.lstore X302.here hx rfl (hb hby d84m8_157) rfl (l' := #[.val (.ref ast), .val (.ref ax), .val (.long 0), .second, .val (.long (offF per lo ph)), .second, .val (.long (nxF per lo ph)), .second, .val (.long (cnF per lo hi ph wd)), .second, .unset, .unset]) rfl) ?_
            refine OGets.step (fun _ => XS.lload X302.here hx rfl (hb hby d84m8_159) rfl) ?_
            refine OGets.step (fun _ => XS.lload X302.here hx rfl (hb hby d84m8_161) rfl) ?_
            refine OGets.step (fun _ => XS.aloadN X302.here hx rfl (hb hby d84m8_163) rfl rfl) ?_
            obtain ⟨T303, X303, e303, st303⟩ := getF X302 hx hZ hown (host := "") (Or.inl (hw _ (List.mem_of_getElem? (i := 45) rfl))) Via.refl rfl (V302.fld 3 rfl 2 rfl rfl) (g := (mkF m 164 #[.val (.ref ast), .val (.ref ax), .val (.long 0), .second, .val (.long (offF per lo ph)), .second, .val (.long (nxF per lo ph)), .second, .val (.long (cnF per lo hi ph wd)), .second, .unset, .unset] [(.ref ast), (.long (cnF per lo hi ph wd)), (.long (nxF per lo ph))])) rfl rfl (hb hby d84m8_164)
            refine OGets.step st303 ?_
            refine OGets.step (fun _ => XS.i2l X303.here hx rfl (hb hby d84m8_167) rfl) ?_
            refine OGets.step (fun _ => XS.lmul X303.here hx rfl (hb hby d84m8_168) rfl) ?_
            refine OGets.step (fun _ => XS.ladd X303.here hx rfl (hb hby d84m8_169) rfl) ?_
            show OGets p e below _ (T303.setTop (mkF m 170 #[.val (.ref ast), .val (.ref ax), .val (.long 0), .second, .val (.long (offF per lo ph)), .second, .val (.long (nxF per lo ph)), .second, .val (.long (cnF per lo hi ph wd)), .second, .unset, .unset] [(.long (afF per lo hi ph wd))]))
            refine OGets.step (fun _ => XS.lstore X303.here hx rfl (hb hby d84m8_170) rfl (l' := #[.val (.ref ast), .val (.ref ax), .val (.long 0), .second, .val (.long (offF per lo ph)), .second, .val (.long (nxF per lo ph)), .second, .val (.long (cnF per lo hi ph wd)), .second, .val (.long (afF per lo hi ph wd)), .second]) rfl) ?_
            have K304 : ∀ (T304 : State) (lj304 : List Loc), Stand p l e ({ frames := 1, cells := 0, slots := 0, locals := 19 } : Room) s m #[(.ref ast), (.ref ax)] below meth c T304 lj304 0 0 → Fr n0 lj304 → n0 ≤ T304.heap.size → OView Z n0 T304.heap (oX ax [(.ref ao), (.ref ast)] :: oC ao [(.int per), (.ref au), (.ref ac), .null, .null, (.int hg)] :: oA ac (s1F per lo hi ph wd CC) :: oS ast [(.int lo), (.int hi), (.int per), (.int ph), (.int wd)] :: F) → OGets p e below (OLeaves s (Q_spN Z ax ao ast au ac lo hi per ph wd hg CC h0 n0 F ) ({ frames := 1, cells := 0, slots := 0, locals := 19 } : Room).cells ({ frames := 1, cells := 0, slots := 0, locals := 19 } : Room).slots) (T304.setTop (mkF m 228 #[.val (.ref ast), .val (.ref ax), .val (.long 0), .second, .val (.long (offF per lo ph)), .second, .val (.long (nxF per lo ph)), .second, .val (.long (cnF per lo hi ph wd)), .second, .val (.long (afF per lo hi ph wd)), .second] [])) := by
              intro T304 lj304 X304 N304 Z304 V304
              have K305 : ∀ (T305 : State) (lj305 : List Loc), Stand p l e ({ frames := 1, cells := 0, slots := 0, locals := 19 } : Room) s m #[(.ref ast), (.ref ax)] below meth c T305 lj305 0 0 → Fr n0 lj305 → n0 ≤ T305.heap.size → OView Z n0 T305.heap (oX ax [(.ref ao), (.ref ast)] :: oC ao [(.int per), (.ref au), (.ref ac), .null, .null, (.int hg)] :: oA ac (s2N per lo hi ph wd (s1F per lo hi ph wd CC)) :: oS ast [(.int lo), (.int hi), (.int per), (.int ph), (.int wd)] :: F) → OGets p e below (OLeaves s (Q_spN Z ax ao ast au ac lo hi per ph wd hg CC h0 n0 F ) ({ frames := 1, cells := 0, slots := 0, locals := 19 } : Room).cells ({ frames := 1, cells := 0, slots := 0, locals := 19 } : Room).slots) (T305.setTop (mkF m 282 #[.val (.ref ast), .val (.ref ax), .val (.long 0), .second, .val (.long (offF per lo ph)), .second, .val (.long (nxF per lo ph)), .second, .val (.long (cnF per lo hi ph wd)), .second, .val (.long (afF per lo hi ph wd)), .second] [])) := by
                intro T305 lj305 X305 N305 Z305 V305
                have K306 : ∀ (T306 : State) (lj306 : List Loc), Stand p l e ({ frames := 1, cells := 0, slots := 0, locals := 19 } : Room) s m #[(.ref ast), (.ref ax)] below meth c T306 lj306 0 0 → Fr n0 lj306 → n0 ≤ T306.heap.size → OView Z n0 T306.heap (oX ax [(.ref ao), (.ref ast)] :: oC ao [(.int per), (.ref au), (.ref ac), .null, .null, (.int hg)] :: oA ac (s3F per lo hi ph wd (s2N per lo hi ph wd (s1F per lo hi ph wd CC))) :: oS ast [(.int lo), (.int hi), (.int per), (.int ph), (.int wd)] :: F) → OGets p e below (OLeaves s (Q_spN Z ax ao ast au ac lo hi per ph wd hg CC h0 n0 F ) ({ frames := 1, cells := 0, slots := 0, locals := 19 } : Room).cells ({ frames := 1, cells := 0, slots := 0, locals := 19 } : Room).slots) (T306.setTop (mkF m 309 #[.val (.ref ast), .val (.ref ax), .val (.long 0), .second, .val (.long (offF per lo ph)), .second, .val (.long (nxF per lo ph)), .second, .val (.long (cnF per lo hi ph wd)), .second, .val (.long (afF per lo hi ph wd)), .second] [])) := by
                  intro T306 lj306 X306 N306 Z306 V306
                  show OGets p e below _ (T306.setTop (mkF m 309 #[.val (.ref ast), .val (.ref ax), .val (.long 0), .second, .val (.long (offF per lo ph)), .second, .val (.long (nxF per lo ph)), .second, .val (.long (cnF per lo hi ph wd)), .second, .val (.long (afF per lo hi ph wd)), .second] []))
                  refine OGets.step (fun _ => XS.lloadN X306.here hx rfl (hb hby d84m8_309) rfl) ?_
                  refine OGets.retJ X306 hx hlk Bd.returns (hb hby d84m8_310) (Nat.le_of_ble_eq_true rfl) (Nat.le_of_ble_eq_true rfl) ?_
                  have t1 : spN per lo hi ph wd CC = (s3F per lo hi ph wd (s2N per lo hi ph wd (s1F per lo hi ph wd CC))) := (if_neg hc10_282).trans ((if_neg hc18_287).trans (if_pos hc29_293))
                  refine ⟨rfl, N306, ?_⟩
                  rw [t1]
                  exact V306
                show OGets p e below _ (T305.setTop (mkF m 282 #[.val (.ref ast), .val (.ref ax), .val (.long 0), .second, .val (.long (offF per lo ph)), .second, .val (.long (nxF per lo ph)), .second, .val (.long (cnF per lo hi ph wd)), .second, .val (.long (afF per lo hi ph wd)), .second] []))
                refine OGets.step (fun _ => XS.lload X305.here hx rfl (hb hby d84m8_282) rfl) ?_
                refine OGets.step (fun _ => XS.aloadN X305.here hx rfl (hb hby d84m8_284) rfl rfl) ?_
                obtain ⟨T307, X307, e307, st307⟩ := getF X305 hx hZ hown (host := "") (Or.inl (hw _ (List.mem_of_getElem? (i := 43) rfl))) Via.refl rfl (V305.fld 3 rfl 1 rfl rfl) (g := (mkF m 285 #[.val (.ref ast), .val (.ref ax), .val (.long 0), .second, .val (.long (offF per lo ph)), .second, .val (.long (nxF per lo ph)), .second, .val (.long (cnF per lo hi ph wd)), .second, .val (.long (afF per lo hi ph wd)), .second] [(.ref ast), (.long (afF per lo hi ph wd))])) rfl rfl (hb hby d84m8_285)
                refine OGets.step st307 ?_
                refine OGets.step (fun _ => XS.i2l X307.here hx rfl (hb hby d84m8_288) rfl) ?_
                refine OGets.step (fun _ => XS.lcmp X307.here hx rfl (hb hby d84m8_289) rfl) ?_
                by_cases hc290_308 : (hi.toInt64) < (afF per lo hi ph wd)
                · refine OGets.step (fun _ => XS.ifYes X307.here hx rfl (pc0 := 290) (pc' := 309) rfl (hb hby d84m8_290) rfl ((if0 _ _).trans (tlt ((lw_gt _ _).mpr hc290_308)).2.2.1) (by decide) (by decide)) ?_
                  show OGets p e below _ (T307.setTop (mkF m 309 #[.val (.ref ast), .val (.ref ax), .val (.long 0), .second, .val (.long (offF per lo ph)), .second, .val (.long (nxF per lo ph)), .second, .val (.long (cnF per lo hi ph wd)), .second, .val (.long (afF per lo hi ph wd)), .second] []))
                  have kq0 : (s3F per lo hi ph wd (s2N per lo hi ph wd (s1F per lo hi ph wd CC))) = (s2N per lo hi ph wd (s1F per lo hi ph wd CC)) := if_pos hc290_308
                  exact K306 _ _ X307 N305 (by rw [e307]; exact Z305) (by rw [e307]; rw [kq0]; exact V305)
                · refine OGets.step (fun _ => XS.ifNo X307.here hx rfl (hb hby d84m8_290) rfl ((if0 _ _).trans (flt (fun q => hc290_308 ((lw_gt _ _).mp q))).2.2.1)) ?_
                  show OGets p e below _ (T307.setTop (mkF m 293 #[.val (.ref ast), .val (.ref ax), .val (.long 0), .second, .val (.long (offF per lo ph)), .second, .val (.long (nxF per lo ph)), .second, .val (.long (cnF per lo hi ph wd)), .second, .val (.long (afF per lo hi ph wd)), .second] []))
                  refine OGets.step (fun _ => XS.lloadN X307.here hx rfl (hb hby d84m8_293) rfl) ?_
                  refine OGets.step (fun _ => XS.aloadN X307.here hx rfl (hb hby d84m8_294) rfl rfl) ?_
                  refine OGets.step (fun _ => XS.lload X307.here hx rfl (hb hby d84m8_295) rfl) ?_
                  refine OGets.step (fun _ => XS.l2i X307.here hx rfl (hb hby d84m8_297) rfl) ?_
                  refine OGets.step (fun _ => XS.aloadN X307.here hx rfl (hb hby d84m8_298) rfl rfl) ?_
                  obtain ⟨T309, X309, e309, st309⟩ := getF X307 hx hZ hown (host := "") (Or.inl (hw _ (List.mem_of_getElem? (i := 43) rfl))) Via.refl e307 (V305.fld 3 rfl 1 rfl rfl) (g := (mkF m 299 #[.val (.ref ast), .val (.ref ax), .val (.long 0), .second, .val (.long (offF per lo ph)), .second, .val (.long (nxF per lo ph)), .second, .val (.long (cnF per lo hi ph wd)), .second, .val (.long (afF per lo hi ph wd)), .second] [(.ref ast), (.int ((afF per lo hi ph wd).toInt32)), (.ref ax), (.long 0)])) rfl rfl (hb hby d84m8_299)
                  refine OGets.step st309 ?_
                  obtain ⟨cq310, kq310, q310a, q310b, q310c⟩ := isOf hZ e309 (V305.exa 0 rfl)
                  obtain ⟨_, _, ⟨T310, L310, k310, n310⟩, -, X310, ⟨Lc310, hQ310, l310, y310, z310⟩, st310⟩ := X309.interfaceBack hx (xi := (⟨"com/example/pelt/pelt/Strand$Parts", "range", "(II)J"⟩ : MethodName)) (y := (⟨"com/example/pelt/pelt/StackCounts$2", "range", "(II)J"⟩ : MethodName)) hown (mvT hZ (hw _ (List.mem_of_getElem? (i := 90) rfl))) (mvT hZ (hw _ (List.mem_of_getElem? (i := 91) rfl))) (mvT hZ (hw _ (List.mem_of_getElem? (i := 92) rfl))) (mvT hZ (hw _ (List.mem_of_getElem? (i := 93) rfl))) (mvT hZ (hw _ (List.mem_of_getElem? (i := 94) rfl))) (mvT hZ (hw _ (List.mem_of_getElem? (i := 95) rfl))) (mvT hZ (hw _ (List.mem_of_getElem? (i := 96) rfl))) (mvT hZ (hw _ (List.mem_of_getElem? (i := 97) rfl))) (by decide) (backOf (W := 2) (rm_rg l Z a0 hw [] ax ao ast au ac .null .null per hg ((afF per lo hi ph wd).toInt32) hi (s2N per lo hi ph wd (s1F per lo hi ph wd CC)) T305.heap n0 (oS ast [(.int lo), (.int hi), (.int per), (.int ph), (.int wd)] :: F) Z305 (by simp only [s2N_len, s1F_len, hlC]) ((H.f.2.2.2 hc10_282 hc18_287 hc29_293).2.2.2.2 hc290_308).1 ((H.f.2.2.2 hc10_282 hc18_287 hc29_293).2.2.2.2 hc290_308).2 V305) hZ (hw _ (List.mem_of_getElem? (i := 98) rfl)) (hw _ (List.mem_of_getElem? (i := 58) rfl)) (by decide) (by decide)) q310a q310b q310c (g := (mkF m 302 #[.val (.ref ast), .val (.ref ax), .val (.long 0), .second, .val (.long (offF per lo ph)), .second, .val (.long (nxF per lo ph)), .second, .val (.long (cnF per lo hi ph wd)), .second, .val (.long (afF per lo hi ph wd)), .second] [(.int hi), (.int ((afF per lo hi ph wd).toInt32)), (.ref ax), (.long 0)])) rfl (by rw [hml]; rfl) (Steps.refl _) (argsL := [(.int ((afF per lo hi ph wd).toInt32)), (.int hi)]) (rest := [(.long 0)]) (lenOf pd_7 rfl) rfl (by show 2 * 0 + _ ≤ _; exact Nat.le_of_eq rfl) (hb hby d84m8_302) (fun _ _ => ⟨rfl, e309, Nat.le_of_ble_eq_true rfl, Nat.le_of_ble_eq_true rfl⟩)
                  dsimp only [Pt.U, Pt.locs, Pt.cells, Pt.slots] at X310 l310 y310 z310 st310 hQ310
                  rw [l310, y310, z310] at X310
                  obtain ⟨rfl, N310q, V310⟩ := hQ310
                  have N310 := Fr.app N305 N310q
                  have V310v : OView Z n0 T310.heap (oX ax [(.ref ao), (.ref ast)] :: oC ao [(.int per), (.ref au), (.ref ac), .null, .null, (.int hg)] :: oA ac (rgF (s2N per lo hi ph wd (s1F per lo hi ph wd CC)) ((afF per lo hi ph wd).toInt32) hi) :: oS ast [(.int lo), (.int hi), (.int per), (.int ph), (.int wd)] :: F) := V310
                  have Z310 : n0 ≤ T310.heap.size := V310v.big 0 rfl
                  refine OGets.after st310 ?_
                  refine OGets.step (fun _ => XS.ladd X310.here hx rfl (hb hby d84m8_307) rfl) ?_
                  show OGets p e below _ (T310.setTop (mkF m 308 #[.val (.ref ast), .val (.ref ax), .val (.long 0), .second, .val (.long (offF per lo ph)), .second, .val (.long (nxF per lo ph)), .second, .val (.long (cnF per lo hi ph wd)), .second, .val (.long (afF per lo hi ph wd)), .second] [(.long 0)]))
                  refine OGets.step (fun _ => XS.lstoreN X310.here hx rfl (hb hby d84m8_308) rfl (l' := #[.val (.ref ast), .val (.ref ax), .val (.long 0), .second, .val (.long (offF per lo ph)), .second, .val (.long (nxF per lo ph)), .second, .val (.long (cnF per lo hi ph wd)), .second, .val (.long (afF per lo hi ph wd)), .second]) rfl) ?_
                  show OGets p e below _ (T310.setTop (mkF m 309 #[.val (.ref ast), .val (.ref ax), .val (.long 0), .second, .val (.long (offF per lo ph)), .second, .val (.long (nxF per lo ph)), .second, .val (.long (cnF per lo hi ph wd)), .second, .val (.long (afF per lo hi ph wd)), .second] []))
                  have kq0 : (s3F per lo hi ph wd (s2N per lo hi ph wd (s1F per lo hi ph wd CC))) = (rgF (s2N per lo hi ph wd (s1F per lo hi ph wd CC)) ((afF per lo hi ph wd).toInt32) hi) := if_neg hc290_308
                  exact K306 _ _ X310 N310 Z310 (by rw [kq0]; exact V310v)
              show OGets p e below _ (T304.setTop (mkF m 228 #[.val (.ref ast), .val (.ref ax), .val (.long 0), .second, .val (.long (offF per lo ph)), .second, .val (.long (nxF per lo ph)), .second, .val (.long (cnF per lo hi ph wd)), .second, .val (.long (afF per lo hi ph wd)), .second] []))
              refine OGets.step (fun _ => XS.lload X304.here hx rfl (hb hby d84m8_228) rfl) ?_
              refine OGets.step (fun _ => XS.lconst X304.here hx rfl (hb hby d84m8_230)) ?_
              refine OGets.step (fun _ => XS.lcmp X304.here hx rfl (hb hby d84m8_231) rfl) ?_
              refine OGets.step (fun _ => XS.ifYes X304.here hx rfl (pc0 := 232) (pc' := 253) rfl (hb hby d84m8_232) rfl ((if0 _ _).trans (flt (fun q => ((H.f.2.2.2 hc10_282 hc18_287 hc29_293).2.1 hN : ¬ ((1 : Int64) < (cnF per lo hi ph wd))) ((lw_gt _ _).mp q))).2.2.2) (by decide) (by decide)) ?_
              refine OGets.step (fun _ => XS.lload X304.here hx rfl (hb hby d84m8_253) rfl) ?_
              refine OGets.step (fun _ => XS.lconst X304.here hx rfl (hb hby d84m8_255)) ?_
              refine OGets.step (fun _ => XS.lcmp X304.here hx rfl (hb hby d84m8_256) rfl) ?_
              by_cases hc257_312 : (cnF per lo hi ph wd) = (1 : Int64)
              · refine OGets.step (fun _ => XS.ifNo X304.here hx rfl (hb hby d84m8_257) rfl ((if0 _ _).trans (teq ((lw_eq _ _).mpr hc257_312)).2)) ?_
                show OGets p e below _ (T304.setTop (mkF m 260 #[.val (.ref ast), .val (.ref ax), .val (.long 0), .second, .val (.long (offF per lo ph)), .second, .val (.long (nxF per lo ph)), .second, .val (.long (cnF per lo hi ph wd)), .second, .val (.long (afF per lo hi ph wd)), .second] []))
                refine OGets.step (fun _ => XS.lloadN X304.here hx rfl (hb hby d84m8_260) rfl) ?_
                refine OGets.step (fun _ => XS.aloadN X304.here hx rfl (hb hby d84m8_261) rfl rfl) ?_
                refine OGets.step (fun _ => XS.lload X304.here hx rfl (hb hby d84m8_262) rfl) ?_
                refine OGets.step (fun _ => XS.l2i X304.here hx rfl (hb hby d84m8_264) rfl) ?_
                refine OGets.step (fun _ => XS.lload X304.here hx rfl (hb hby d84m8_265) rfl) ?_
                refine OGets.step (fun _ => XS.l2i X304.here hx rfl (hb hby d84m8_267) rfl) ?_
                refine OGets.step (fun _ => XS.aloadN X304.here hx rfl (hb hby d84m8_268) rfl rfl) ?_
                obtain ⟨T313, X313, e313, st313⟩ := getF X304 hx hZ hown (host := "") (Or.inl (hw _ (List.mem_of_getElem? (i := 49) rfl))) Via.refl rfl (V304.fld 3 rfl 4 rfl rfl) (g := (mkF m 269 #[.val (.ref ast), .val (.ref ax), .val (.long 0), .second, .val (.long (offF per lo ph)), .second, .val (.long (nxF per lo ph)), .second, .val (.long (cnF per lo hi ph wd)), .second, .val (.long (afF per lo hi ph wd)), .second] [(.ref ast), (.int ((nxF per lo ph).toInt32)), (.int ((nxF per lo ph).toInt32)), (.ref ax), (.long 0)])) rfl rfl (hb hby d84m8_269)
                refine OGets.step st313 ?_
                refine OGets.step (fun _ => XS.iadd X313.here hx rfl (hb hby d84m8_272) rfl) ?_
                refine OGets.step (fun _ => XS.iconst X313.here hx rfl (hb hby d84m8_273)) ?_
                refine OGets.step (fun _ => XS.isub X313.here hx rfl (hb hby d84m8_274) rfl) ?_
                obtain ⟨cq314, kq314, q314a, q314b, q314c⟩ := isOf hZ e313 (V304.exa 0 rfl)
                obtain ⟨_, _, ⟨T314, L314, k314, n314⟩, -, X314, ⟨Lc314, hQ314, l314, y314, z314⟩, st314⟩ := X313.interfaceBack hx (xi := (⟨"com/example/pelt/pelt/Strand$Parts", "range", "(II)J"⟩ : MethodName)) (y := (⟨"com/example/pelt/pelt/StackCounts$2", "range", "(II)J"⟩ : MethodName)) hown (mvT hZ (hw _ (List.mem_of_getElem? (i := 90) rfl))) (mvT hZ (hw _ (List.mem_of_getElem? (i := 91) rfl))) (mvT hZ (hw _ (List.mem_of_getElem? (i := 92) rfl))) (mvT hZ (hw _ (List.mem_of_getElem? (i := 93) rfl))) (mvT hZ (hw _ (List.mem_of_getElem? (i := 94) rfl))) (mvT hZ (hw _ (List.mem_of_getElem? (i := 95) rfl))) (mvT hZ (hw _ (List.mem_of_getElem? (i := 96) rfl))) (mvT hZ (hw _ (List.mem_of_getElem? (i := 97) rfl))) (by decide) (backOf (W := 2) (rm_rg l Z a0 hw [] ax ao ast au ac .null .null per hg ((nxF per lo ph).toInt32) ((((nxF per lo ph).toInt32) + wd) - (1 : Int32)) (s1F per lo hi ph wd CC) T304.heap n0 (oS ast [(.int lo), (.int hi), (.int per), (.int ph), (.int wd)] :: F) Z304 (by simp only [s1F_len, hlC]) ((H.f.2.2.2 hc10_282 hc18_287 hc29_293).2.2.1 hc257_312).1 ((H.f.2.2.2 hc10_282 hc18_287 hc29_293).2.2.1 hc257_312).2 V304) hZ (hw _ (List.mem_of_getElem? (i := 98) rfl)) (hw _ (List.mem_of_getElem? (i := 58) rfl)) (by decide) (by decide)) q314a q314b q314c (g := (mkF m 275 #[.val (.ref ast), .val (.ref ax), .val (.long 0), .second, .val (.long (offF per lo ph)), .second, .val (.long (nxF per lo ph)), .second, .val (.long (cnF per lo hi ph wd)), .second, .val (.long (afF per lo hi ph wd)), .second] [(.int ((((nxF per lo ph).toInt32) + wd) - (1 : Int32))), (.int ((nxF per lo ph).toInt32)), (.ref ax), (.long 0)])) rfl (by rw [hml]; rfl) (Steps.refl _) (argsL := [(.int ((nxF per lo ph).toInt32)), (.int ((((nxF per lo ph).toInt32) + wd) - (1 : Int32)))]) (rest := [(.long 0)]) (lenOf pd_7 rfl) rfl (by show 2 * 0 + _ ≤ _; exact Nat.le_of_eq rfl) (hb hby d84m8_275) (fun _ _ => ⟨rfl, e313, Nat.le_of_ble_eq_true rfl, Nat.le_of_ble_eq_true rfl⟩)
                dsimp only [Pt.U, Pt.locs, Pt.cells, Pt.slots] at X314 l314 y314 z314 st314 hQ314
                rw [l314, y314, z314] at X314
                obtain ⟨rfl, N314q, V314⟩ := hQ314
                have N314 := Fr.app N304 N314q
                have V314v : OView Z n0 T314.heap (oX ax [(.ref ao), (.ref ast)] :: oC ao [(.int per), (.ref au), (.ref ac), .null, .null, (.int hg)] :: oA ac (rgF (s1F per lo hi ph wd CC) ((nxF per lo ph).toInt32) ((((nxF per lo ph).toInt32) + wd) - (1 : Int32))) :: oS ast [(.int lo), (.int hi), (.int per), (.int ph), (.int wd)] :: F) := V314
                have Z314 : n0 ≤ T314.heap.size := V314v.big 0 rfl
                refine OGets.after st314 ?_
                refine OGets.step (fun _ => XS.ladd X314.here hx rfl (hb hby d84m8_280) rfl) ?_
                show OGets p e below _ (T314.setTop (mkF m 281 #[.val (.ref ast), .val (.ref ax), .val (.long 0), .second, .val (.long (offF per lo ph)), .second, .val (.long (nxF per lo ph)), .second, .val (.long (cnF per lo hi ph wd)), .second, .val (.long (afF per lo hi ph wd)), .second] [(.long 0)]))
                refine OGets.step (fun _ => XS.lstoreN X314.here hx rfl (hb hby d84m8_281) rfl (l' := #[.val (.ref ast), .val (.ref ax), .val (.long 0), .second, .val (.long (offF per lo ph)), .second, .val (.long (nxF per lo ph)), .second, .val (.long (cnF per lo hi ph wd)), .second, .val (.long (afF per lo hi ph wd)), .second]) rfl) ?_
                show OGets p e below _ (T314.setTop (mkF m 282 #[.val (.ref ast), .val (.ref ax), .val (.long 0), .second, .val (.long (offF per lo ph)), .second, .val (.long (nxF per lo ph)), .second, .val (.long (cnF per lo hi ph wd)), .second, .val (.long (afF per lo hi ph wd)), .second] []))
                have kq0 : (s2N per lo hi ph wd (s1F per lo hi ph wd CC)) = (rgF (s1F per lo hi ph wd CC) ((nxF per lo ph).toInt32) ((((nxF per lo ph).toInt32) + wd) - (1 : Int32))) := if_pos hc257_312
                exact K305 _ _ X314 N314 Z314 (by rw [kq0]; exact V314v)
              · refine OGets.step (fun _ => XS.ifYes X304.here hx rfl (pc0 := 257) (pc' := 282) rfl (hb hby d84m8_257) rfl ((if0 _ _).trans (feq (fun q => hc257_312 ((lw_eq _ _).mp q))).2) (by decide) (by decide)) ?_
                show OGets p e below _ (T304.setTop (mkF m 282 #[.val (.ref ast), .val (.ref ax), .val (.long 0), .second, .val (.long (offF per lo ph)), .second, .val (.long (nxF per lo ph)), .second, .val (.long (cnF per lo hi ph wd)), .second, .val (.long (afF per lo hi ph wd)), .second] []))
                have kq0 : (s2N per lo hi ph wd (s1F per lo hi ph wd CC)) = (s1F per lo hi ph wd CC) := if_neg hc257_312
                exact K305 _ _ X304 N304 Z304 (by rw [kq0]; exact V304)
            refine OGets.step (fun _ => XS.lload X303.here hx rfl (hb hby d84m8_172) rfl) ?_
            refine OGets.step (fun _ => XS.lconst X303.here hx rfl (hb hby d84m8_174)) ?_
            refine OGets.step (fun _ => XS.lcmp X303.here hx rfl (hb hby d84m8_175) rfl) ?_
            by_cases hc176_315 : (0 : Int64) < (offF per lo ph)
            · refine OGets.step (fun _ => XS.ifNo X303.here hx rfl (hb hby d84m8_176) rfl ((if0 _ _).trans (tlt ((lw_gt _ _).mpr hc176_315)).2.2.2)) ?_
              show OGets p e below _ (T303.setTop (mkF m 179 #[.val (.ref ast), .val (.ref ax), .val (.long 0), .second, .val (.long (offF per lo ph)), .second, .val (.long (nxF per lo ph)), .second, .val (.long (cnF per lo hi ph wd)), .second, .val (.long (afF per lo hi ph wd)), .second] []))
              refine OGets.step (fun _ => XS.lload X303.here hx rfl (hb hby d84m8_179) rfl) ?_
              refine OGets.step (fun _ => XS.aloadN X303.here hx rfl (hb hby d84m8_181) rfl rfl) ?_
              obtain ⟨T316, X316, e316, st316⟩ := getF X303 hx hZ hown (host := "") (Or.inl (hw _ (List.mem_of_getElem? (i := 49) rfl))) Via.refl e303 (V302.fld 3 rfl 4 rfl rfl) (g := (mkF m 182 #[.val (.ref ast), .val (.ref ax), .val (.long 0), .second, .val (.long (offF per lo ph)), .second, .val (.long (nxF per lo ph)), .second, .val (.long (cnF per lo hi ph wd)), .second, .val (.long (afF per lo hi ph wd)), .second] [(.ref ast), (.long (offF per lo ph))])) rfl rfl (hb hby d84m8_182)
              refine OGets.step st316 ?_
              refine OGets.step (fun _ => XS.i2l X316.here hx rfl (hb hby d84m8_185) rfl) ?_
              refine OGets.step (fun _ => XS.lcmp X316.here hx rfl (hb hby d84m8_186) rfl) ?_
              by_cases hc187_317 : (offF per lo ph) < (wd.toInt64)
              · refine OGets.step (fun _ => XS.ifNo X316.here hx rfl (hb hby d84m8_187) rfl ((if0 _ _).trans (tlt ((lw_lt _ _).mpr hc187_317)).2.1)) ?_
                show OGets p e below _ (T316.setTop (mkF m 190 #[.val (.ref ast), .val (.ref ax), .val (.long 0), .second, .val (.long (offF per lo ph)), .second, .val (.long (nxF per lo ph)), .second, .val (.long (cnF per lo hi ph wd)), .second, .val (.long (afF per lo hi ph wd)), .second] []))
                refine OGets.step (fun _ => XS.lloadN X316.here hx rfl (hb hby d84m8_190) rfl) ?_
                refine OGets.step (fun _ => XS.aloadN X316.here hx rfl (hb hby d84m8_191) rfl rfl) ?_
                refine OGets.step (fun _ => XS.aloadN X316.here hx rfl (hb hby d84m8_192) rfl rfl) ?_
                obtain ⟨T318, X318, e318, st318⟩ := getF X316 hx hZ hown (host := "") (Or.inl (hw _ (List.mem_of_getElem? (i := 41) rfl))) Via.refl e316 (V302.fld 3 rfl 0 rfl rfl) (g := (mkF m 193 #[.val (.ref ast), .val (.ref ax), .val (.long 0), .second, .val (.long (offF per lo ph)), .second, .val (.long (nxF per lo ph)), .second, .val (.long (cnF per lo hi ph wd)), .second, .val (.long (afF per lo hi ph wd)), .second] [(.ref ast), (.ref ax), (.long 0)])) rfl rfl (hb hby d84m8_193)
                refine OGets.step st318 ?_
                refine OGets.step (fun _ => XS.aloadN X318.here hx rfl (hb hby d84m8_196) rfl rfl) ?_
                obtain ⟨T319, X319, e319, st319⟩ := getF X318 hx hZ hown (host := "") (Or.inl (hw _ (List.mem_of_getElem? (i := 41) rfl))) Via.refl e318 (V302.fld 3 rfl 0 rfl rfl) (g := (mkF m 197 #[.val (.ref ast), .val (.ref ax), .val (.long 0), .second, .val (.long (offF per lo ph)), .second, .val (.long (nxF per lo ph)), .second, .val (.long (cnF per lo hi ph wd)), .second, .val (.long (afF per lo hi ph wd)), .second] [(.ref ast), (.int lo), (.ref ax), (.long 0)])) rfl rfl (hb hby d84m8_197)
                refine OGets.step st319 ?_
                refine OGets.step (fun _ => XS.i2l X319.here hx rfl (hb hby d84m8_200) rfl) ?_
                refine OGets.step (fun _ => XS.lload X319.here hx rfl (hb hby d84m8_201) rfl) ?_
                refine OGets.step (fun _ => XS.lsub X319.here hx rfl (hb hby d84m8_203) rfl) ?_
                refine OGets.step (fun _ => XS.aloadN X319.here hx rfl (hb hby d84m8_204) rfl rfl) ?_
                obtain ⟨T320, X320, e320, st320⟩ := getF X319 hx hZ hown (host := "") (Or.inl (hw _ (List.mem_of_getElem? (i := 49) rfl))) Via.refl e319 (V302.fld 3 rfl 4 rfl rfl) (g := (mkF m 205 #[.val (.ref ast), .val (.ref ax), .val (.long 0), .second, .val (.long (offF per lo ph)), .second, .val (.long (nxF per lo ph)), .second, .val (.long (cnF per lo hi ph wd)), .second, .val (.long (afF per lo hi ph wd)), .second] [(.ref ast), (.long ((lo.toInt64) - (offF per lo ph))), (.int lo), (.ref ax), (.long 0)])) rfl rfl (hb hby d84m8_205)
                refine OGets.step st320 ?_
                refine OGets.step (fun _ => XS.i2l X320.here hx rfl (hb hby d84m8_208) rfl) ?_
                refine OGets.step (fun _ => XS.ladd X320.here hx rfl (hb hby d84m8_209) rfl) ?_
                refine OGets.step (fun _ => XS.lconst X320.here hx rfl (hb hby d84m8_210)) ?_
                refine OGets.step (fun _ => XS.lsub X320.here hx rfl (hb hby d84m8_211) rfl) ?_
                refine OGets.step (fun _ => XS.aloadN X320.here hx rfl (hb hby d84m8_212) rfl rfl) ?_
                obtain ⟨T321, X321, e321, st321⟩ := getF X320 hx hZ hown (host := "") (Or.inl (hw _ (List.mem_of_getElem? (i := 43) rfl))) Via.refl e320 (V302.fld 3 rfl 1 rfl rfl) (g := (mkF m 213 #[.val (.ref ast), .val (.ref ax), .val (.long 0), .second, .val (.long (offF per lo ph)), .second, .val (.long (nxF per lo ph)), .second, .val (.long (cnF per lo hi ph wd)), .second, .val (.long (afF per lo hi ph wd)), .second] [(.ref ast), (.long ((((lo.toInt64) - (offF per lo ph)) + (wd.toInt64)) - (1 : Int64))), (.int lo), (.ref ax), (.long 0)])) rfl rfl (hb hby d84m8_213)
                refine OGets.step st321 ?_
                refine OGets.step (fun _ => XS.i2l X321.here hx rfl (hb hby d84m8_216) rfl) ?_
                obtain ⟨_, _, ⟨T322, L322, k322, n322⟩, -, X322, ⟨Lc322, hQ322, l322, y322, z322⟩, st322⟩ := Jvm.LawKit.callS X321 hx (y := (⟨"java/lang/Math", "min", "(JJ)J"⟩ : MethodName)) hown (mvT hZ (hw _ (List.mem_of_getElem? (i := 104) rfl))) (mvT hZ (hw _ (List.mem_of_getElem? (i := 105) rfl))) (mvT hZ (hw _ (List.mem_of_getElem? (i := 88) rfl))) (mvT hZ (hw _ (List.mem_of_getElem? (i := 106) rfl))) (by decide) (backOf (W := 4) (rm_mn l Z a0 hw [] ((((lo.toInt64) - (offF per lo ph)) + (wd.toInt64)) - (1 : Int64)) (hi.toInt64) T302.heap n0  Z302 ) hZ (hw _ (List.mem_of_getElem? (i := 106) rfl)) (hw _ (List.mem_of_getElem? (i := 88) rfl)) (by decide) (by decide)) (g := (mkF m 217 #[.val (.ref ast), .val (.ref ax), .val (.long 0), .second, .val (.long (offF per lo ph)), .second, .val (.long (nxF per lo ph)), .second, .val (.long (cnF per lo hi ph wd)), .second, .val (.long (afF per lo hi ph wd)), .second] [(.long (hi.toInt64)), (.long ((((lo.toInt64) - (offF per lo ph)) + (wd.toInt64)) - (1 : Int64))), (.int lo), (.ref ax), (.long 0)])) rfl (by rw [hml]; rfl) (argsL := [(.long ((((lo.toInt64) - (offF per lo ph)) + (wd.toInt64)) - (1 : Int64))), (.long (hi.toInt64))]) (rest := [(.int lo), (.ref ax), (.long 0)]) (lenOf pd_9 rfl) rfl (by show 2 * 0 + _ ≤ _; exact Nat.le_of_eq rfl) (hb hby d84m8_217) (fun _ _ => ⟨rfl, e321, Nat.le_of_ble_eq_true rfl, Nat.le_of_ble_eq_true rfl⟩)
                dsimp only [Pt.U, Pt.locs, Pt.cells, Pt.slots] at X322 l322 y322 z322 st322 hQ322
                rw [l322, y322, z322] at X322
                obtain ⟨rfl, rfl, e322⟩ := hQ322
                have N322 := Fr.app N302 (Fr.nil n0)
                refine OGets.step st322 ?_
                refine OGets.step (fun _ => XS.l2i X322.here hx rfl (hb hby d84m8_220) rfl) ?_
                show OGets p e below _ (T322.setTop (mkF m 221 #[.val (.ref ast), .val (.ref ax), .val (.long 0), .second, .val (.long (offF per lo ph)), .second, .val (.long (nxF per lo ph)), .second, .val (.long (cnF per lo hi ph wd)), .second, .val (.long (afF per lo hi ph wd)), .second] [(.int (m1F per lo hi ph wd)), (.int lo), (.ref ax), (.long 0)]))
                obtain ⟨cq323, kq323, q323a, q323b, q323c⟩ := isOf hZ e322 (V302.exa 0 rfl)
                obtain ⟨_, _, ⟨T323, L323, k323, n323⟩, -, X323, ⟨Lc323, hQ323, l323, y323, z323⟩, st323⟩ := X322.interfaceBack hx (xi := (⟨"com/example/pelt/pelt/Strand$Parts", "range", "(II)J"⟩ : MethodName)) (y := (⟨"com/example/pelt/pelt/StackCounts$2", "range", "(II)J"⟩ : MethodName)) hown (mvT hZ (hw _ (List.mem_of_getElem? (i := 90) rfl))) (mvT hZ (hw _ (List.mem_of_getElem? (i := 91) rfl))) (mvT hZ (hw _ (List.mem_of_getElem? (i := 92) rfl))) (mvT hZ (hw _ (List.mem_of_getElem? (i := 93) rfl))) (mvT hZ (hw _ (List.mem_of_getElem? (i := 94) rfl))) (mvT hZ (hw _ (List.mem_of_getElem? (i := 95) rfl))) (mvT hZ (hw _ (List.mem_of_getElem? (i := 96) rfl))) (mvT hZ (hw _ (List.mem_of_getElem? (i := 97) rfl))) (by decide) (backOf (W := 2) (rm_rg l Z a0 hw [] ax ao ast au ac .null .null per hg lo (m1F per lo hi ph wd) CC T302.heap n0 (oS ast [(.int lo), (.int hi), (.int per), (.int ph), (.int wd)] :: F) Z302 (by simp only [hlC]) ((H.f.2.2.2 hc10_282 hc18_287 hc29_293).1 hc176_315 hc187_317).1 ((H.f.2.2.2 hc10_282 hc18_287 hc29_293).1 hc176_315 hc187_317).2 V302) hZ (hw _ (List.mem_of_getElem? (i := 98) rfl)) (hw _ (List.mem_of_getElem? (i := 58) rfl)) (by decide) (by decide)) q323a q323b q323c (g := (mkF m 221 #[.val (.ref ast), .val (.ref ax), .val (.long 0), .second, .val (.long (offF per lo ph)), .second, .val (.long (nxF per lo ph)), .second, .val (.long (cnF per lo hi ph wd)), .second, .val (.long (afF per lo hi ph wd)), .second] [(.int (m1F per lo hi ph wd)), (.int lo), (.ref ax), (.long 0)])) rfl (by rw [hml]; rfl) (Steps.refl _) (argsL := [(.int lo), (.int (m1F per lo hi ph wd))]) (rest := [(.long 0)]) (lenOf pd_7 rfl) rfl (by show 2 * 0 + _ ≤ _; exact Nat.le_of_eq rfl) (hb hby d84m8_221) (fun _ _ => ⟨rfl, e322, Nat.le_of_ble_eq_true rfl, Nat.le_of_ble_eq_true rfl⟩)
                dsimp only [Pt.U, Pt.locs, Pt.cells, Pt.slots] at X323 l323 y323 z323 st323 hQ323
                rw [l323, y323, z323] at X323
                obtain ⟨rfl, N323q, V323⟩ := hQ323
                have N323 := Fr.app N322 N323q
                have V323v : OView Z n0 T323.heap (oX ax [(.ref ao), (.ref ast)] :: oC ao [(.int per), (.ref au), (.ref ac), .null, .null, (.int hg)] :: oA ac (rgF CC lo (m1F per lo hi ph wd)) :: oS ast [(.int lo), (.int hi), (.int per), (.int ph), (.int wd)] :: F) := V323
                have Z323 : n0 ≤ T323.heap.size := V323v.big 0 rfl
                refine OGets.after st323 ?_
                refine OGets.step (fun _ => XS.ladd X323.here hx rfl (hb hby d84m8_226) rfl) ?_
                show OGets p e below _ (T323.setTop (mkF m 227 #[.val (.ref ast), .val (.ref ax), .val (.long 0), .second, .val (.long (offF per lo ph)), .second, .val (.long (nxF per lo ph)), .second, .val (.long (cnF per lo hi ph wd)), .second, .val (.long (afF per lo hi ph wd)), .second] [(.long 0)]))
                refine OGets.step (fun _ => XS.lstoreN X323.here hx rfl (hb hby d84m8_227) rfl (l' := #[.val (.ref ast), .val (.ref ax), .val (.long 0), .second, .val (.long (offF per lo ph)), .second, .val (.long (nxF per lo ph)), .second, .val (.long (cnF per lo hi ph wd)), .second, .val (.long (afF per lo hi ph wd)), .second]) rfl) ?_
                show OGets p e below _ (T323.setTop (mkF m 228 #[.val (.ref ast), .val (.ref ax), .val (.long 0), .second, .val (.long (offF per lo ph)), .second, .val (.long (nxF per lo ph)), .second, .val (.long (cnF per lo hi ph wd)), .second, .val (.long (afF per lo hi ph wd)), .second] []))
                have kq0 : (s1F per lo hi ph wd CC) = (rgF CC lo (m1F per lo hi ph wd)) := (if_pos hc176_315).trans (if_pos hc187_317)
                exact K304 _ _ X323 N323 Z323 (by rw [kq0]; exact V323v)
              · refine OGets.step (fun _ => XS.ifYes X316.here hx rfl (pc0 := 187) (pc' := 228) rfl (hb hby d84m8_187) rfl ((if0 _ _).trans (flt (fun q => hc187_317 ((lw_lt _ _).mp q))).2.1) (by decide) (by decide)) ?_
                show OGets p e below _ (T316.setTop (mkF m 228 #[.val (.ref ast), .val (.ref ax), .val (.long 0), .second, .val (.long (offF per lo ph)), .second, .val (.long (nxF per lo ph)), .second, .val (.long (cnF per lo hi ph wd)), .second, .val (.long (afF per lo hi ph wd)), .second] []))
                have kq0 : (s1F per lo hi ph wd CC) = CC := (if_pos hc176_315).trans (if_neg hc187_317)
                exact K304 _ _ X316 N302 (by rw [e316]; exact Z302) (by rw [e316]; rw [kq0]; exact V302)
            · refine OGets.step (fun _ => XS.ifYes X303.here hx rfl (pc0 := 176) (pc' := 228) rfl (hb hby d84m8_176) rfl ((if0 _ _).trans (flt (fun q => hc176_315 ((lw_gt _ _).mp q))).2.2.2) (by decide) (by decide)) ?_
              show OGets p e below _ (T303.setTop (mkF m 228 #[.val (.ref ast), .val (.ref ax), .val (.long 0), .second, .val (.long (offF per lo ph)), .second, .val (.long (nxF per lo ph)), .second, .val (.long (cnF per lo hi ph wd)), .second, .val (.long (afF per lo hi ph wd)), .second] []))
              have kq0 : (s1F per lo hi ph wd CC) = CC := if_neg hc176_315
              exact K304 _ _ X303 N302 (by rw [e303]; exact Z302) (by rw [e303]; rw [kq0]; exact V302)
          refine OGets.step (fun _ => XS.lload X301.here hx rfl (hb hby d84m8_111) rfl) ?_
          refine OGets.step (fun _ => XS.aloadN X301.here hx rfl (hb hby d84m8_113) rfl rfl) ?_
          obtain ⟨T324, X324, e324, st324⟩ := getF X301 hx hZ hown (host := "") (Or.inl (hw _ (List.mem_of_getElem? (i := 49) rfl))) Via.refl rfl (V301.fld 3 rfl 4 rfl rfl) (g := (mkF m 114 #[.val (.ref ast), .val (.ref ax), .val (.long 0), .second, .val (.long (offF per lo ph)), .second, .val (.long (nxF per lo ph)), .second, .unset, .unset, .unset, .unset] [(.ref ast), (.long (nxF per lo ph))])) rfl rfl (hb hby d84m8_114)
          refine OGets.step st324 ?_
          refine OGets.step (fun _ => XS.i2l X324.here hx rfl (hb hby d84m8_117) rfl) ?_
          refine OGets.step (fun _ => XS.ladd X324.here hx rfl (hb hby d84m8_118) rfl) ?_
          refine OGets.step (fun _ => XS.lconst X324.here hx rfl (hb hby d84m8_119)) ?_
          refine OGets.step (fun _ => XS.lsub X324.here hx rfl (hb hby d84m8_120) rfl) ?_
          refine OGets.step (fun _ => XS.aloadN X324.here hx rfl (hb hby d84m8_121) rfl rfl) ?_
          obtain ⟨T325, X325, e325, st325⟩ := getF X324 hx hZ hown (host := "") (Or.inl (hw _ (List.mem_of_getElem? (i := 43) rfl))) Via.refl e324 (V301.fld 3 rfl 1 rfl rfl) (g := (mkF m 122 #[.val (.ref ast), .val (.ref ax), .val (.long 0), .second, .val (.long (offF per lo ph)), .second, .val (.long (nxF per lo ph)), .second, .unset, .unset, .unset, .unset] [(.ref ast), (.long (((nxF per lo ph) + (wd.toInt64)) - (1 : Int64)))])) rfl rfl (hb hby d84m8_122)
          refine OGets.step st325 ?_
          refine OGets.step (fun _ => XS.i2l X325.here hx rfl (hb hby d84m8_125) rfl) ?_
          refine OGets.step (fun _ => XS.lcmp X325.here hx rfl (hb hby d84m8_126) rfl) ?_
          by_cases hc127_326 : (hi.toInt64) < (((nxF per lo ph) + (wd.toInt64)) - (1 : Int64))
          · refine OGets.step (fun _ => XS.ifYes X325.here hx rfl (pc0 := 127) (pc' := 156) rfl (hb hby d84m8_127) rfl ((if0 _ _).trans (tlt ((lw_gt _ _).mpr hc127_326)).2.2.1) (by decide) (by decide)) ?_
            show OGets p e below _ (T325.setTop (mkF m 156 #[.val (.ref ast), .val (.ref ax), .val (.long 0), .second, .val (.long (offF per lo ph)), .second, .val (.long (nxF per lo ph)), .second, .unset, .unset, .unset, .unset] []))
            refine OGets.step (fun _ => XS.lconst X325.here hx rfl (hb hby d84m8_156)) ?_
            show OGets p e below _ (T325.setTop (mkF m 157 #[.val (.ref ast), .val (.ref ax), .val (.long 0), .second, .val (.long (offF per lo ph)), .second, .val (.long (nxF per lo ph)), .second, .unset, .unset, .unset, .unset] [(.long 0)]))
            have ke : (cnF per lo hi ph wd) = (0 : Int64) := if_pos hc127_326
            have kr := K302 _ _ X325 N301 (by rw [e325]; exact Z301) (by rw [e325]; exact V301)
            rw [ke] at kr
            exact kr
          · refine OGets.step (fun _ => XS.ifNo X325.here hx rfl (hb hby d84m8_127) rfl ((if0 _ _).trans (flt (fun q => hc127_326 ((lw_gt _ _).mp q))).2.2.1)) ?_
            show OGets p e below _ (T325.setTop (mkF m 130 #[.val (.ref ast), .val (.ref ax), .val (.long 0), .second, .val (.long (offF per lo ph)), .second, .val (.long (nxF per lo ph)), .second, .unset, .unset, .unset, .unset] []))
            refine OGets.step (fun _ => XS.aloadN X325.here hx rfl (hb hby d84m8_130) rfl rfl) ?_
            obtain ⟨T327, X327, e327, st327⟩ := getF X325 hx hZ hown (host := "") (Or.inl (hw _ (List.mem_of_getElem? (i := 43) rfl))) Via.refl e325 (V301.fld 3 rfl 1 rfl rfl) (g := (mkF m 131 #[.val (.ref ast), .val (.ref ax), .val (.long 0), .second, .val (.long (offF per lo ph)), .second, .val (.long (nxF per lo ph)), .second, .unset, .unset, .unset, .unset] [(.ref ast)])) rfl rfl (hb hby d84m8_131)
            refine OGets.step st327 ?_
            refine OGets.step (fun _ => XS.aloadN X327.here hx rfl (hb hby d84m8_134) rfl rfl) ?_
            obtain ⟨T328, X328, e328, st328⟩ := getF X327 hx hZ hown (host := "") (Or.inl (hw _ (List.mem_of_getElem? (i := 49) rfl))) Via.refl e327 (V301.fld 3 rfl 4 rfl rfl) (g := (mkF m 135 #[.val (.ref ast), .val (.ref ax), .val (.long 0), .second, .val (.long (offF per lo ph)), .second, .val (.long (nxF per lo ph)), .second, .unset, .unset, .unset, .unset] [(.ref ast), (.int hi)])) rfl rfl (hb hby d84m8_135)
            refine OGets.step st328 ?_
            refine OGets.step (fun _ => XS.isub X328.here hx rfl (hb hby d84m8_138) rfl) ?_
            refine OGets.step (fun _ => XS.iconst X328.here hx rfl (hb hby d84m8_139)) ?_
            refine OGets.step (fun _ => XS.iadd X328.here hx rfl (hb hby d84m8_140) rfl) ?_
            refine OGets.step (fun _ => XS.i2l X328.here hx rfl (hb hby d84m8_141) rfl) ?_
            refine OGets.step (fun _ => XS.lload X328.here hx rfl (hb hby d84m8_142) rfl) ?_
            refine OGets.step (fun _ => XS.lsub X328.here hx rfl (hb hby d84m8_144) rfl) ?_
            refine OGets.step (fun _ => XS.aloadN X328.here hx rfl (hb hby d84m8_145) rfl rfl) ?_
            obtain ⟨T329, X329, e329, st329⟩ := getF X328 hx hZ hown (host := "") (Or.inl (hw _ (List.mem_of_getElem? (i := 45) rfl))) Via.refl e328 (V301.fld 3 rfl 2 rfl rfl) (g := (mkF m 146 #[.val (.ref ast), .val (.ref ax), .val (.long 0), .second, .val (.long (offF per lo ph)), .second, .val (.long (nxF per lo ph)), .second, .unset, .unset, .unset, .unset] [(.ref ast), (.long ((((hi - wd) + (1 : Int32)).toInt64) - (nxF per lo ph)))])) rfl rfl (hb hby d84m8_146)
            refine OGets.step st329 ?_
            refine OGets.step (fun _ => XS.i2l X329.here hx rfl (hb hby d84m8_149) rfl) ?_
            refine OGets.step (fun _ => XS.ldiv X329.here hx rfl (hb hby d84m8_150) rfl H.f.2.2.1) ?_
            refine OGets.step (fun _ => XS.lconst X329.here hx rfl (hb hby d84m8_151)) ?_
            refine OGets.step (fun _ => XS.ladd X329.here hx rfl (hb hby d84m8_152) rfl) ?_
            refine OGets.step (fun _ => XS.goto X329.here hx rfl (pc0 := 153) (pc' := 157) rfl (hb hby d84m8_153) (by decide) (by decide)) ?_
            show OGets p e below _ (T329.setTop (mkF m 157 #[.val (.ref ast), .val (.ref ax), .val (.long 0), .second, .val (.long (offF per lo ph)), .second, .val (.long (nxF per lo ph)), .second, .unset, .unset, .unset, .unset] [(.long ((((((hi - wd) + (1 : Int32)).toInt64) - (nxF per lo ph)) / (per.toInt64)) + (1 : Int64)))]))
            have ke : (cnF per lo hi ph wd) = ((((((hi - wd) + (1 : Int32)).toInt64) - (nxF per lo ph)) / (per.toInt64)) + (1 : Int64)) := if_neg hc127_326
            have kr := K302 _ _ X329 N301 (by rw [e329]; exact Z301) (by rw [e329]; exact V301)
            rw [ke] at kr
            exact kr
        refine OGets.step (fun _ => XS.lload X300.here hx rfl (hb hby d84m8_80) rfl) ?_
        refine OGets.step (fun _ => XS.lconst X300.here hx rfl (hb hby d84m8_82)) ?_
        refine OGets.step (fun _ => XS.lcmp X300.here hx rfl (hb hby d84m8_83) rfl) ?_
        by_cases hc84_330 : (offF per lo ph) = (0 : Int64)
        · refine OGets.step (fun _ => XS.ifNo X300.here hx rfl (hb hby d84m8_84) rfl ((if0 _ _).trans (teq ((lw_eq _ _).mpr hc84_330)).2)) ?_
          show OGets p e below _ (T300.setTop (mkF m 87 #[.val (.ref ast), .val (.ref ax), .val (.long 0), .second, .val (.long (offF per lo ph)), .second, .unset, .unset, .unset, .unset, .unset, .unset] []))
          refine OGets.step (fun _ => XS.aloadN X300.here hx rfl (hb hby d84m8_87) rfl rfl) ?_
          obtain ⟨T331, X331, e331, st331⟩ := getF X300 hx hZ hown (host := "") (Or.inl (hw _ (List.mem_of_getElem? (i := 41) rfl))) Via.refl e300 (V0.fld 3 rfl 0 rfl rfl) (g := (mkF m 88 #[.val (.ref ast), .val (.ref ax), .val (.long 0), .second, .val (.long (offF per lo ph)), .second, .unset, .unset, .unset, .unset, .unset, .unset] [(.ref ast)])) rfl rfl (hb hby d84m8_88)
          refine OGets.step st331 ?_
          refine OGets.step (fun _ => XS.i2l X331.here hx rfl (hb hby d84m8_91) rfl) ?_
          refine OGets.step (fun _ => XS.goto X331.here hx rfl (pc0 := 92) (pc' := 109) rfl (hb hby d84m8_92) (by decide) (by decide)) ?_
          show OGets p e below _ (T331.setTop (mkF m 109 #[.val (.ref ast), .val (.ref ax), .val (.long 0), .second, .val (.long (offF per lo ph)), .second, .unset, .unset, .unset, .unset, .unset, .unset] [(.long (lo.toInt64))]))
          have ke : (nxF per lo ph) = (lo.toInt64) := if_pos hc84_330
          have kr := K301 _ _ X331 N300 (by rw [e331]; exact Z0) (by rw [e331]; exact V0)
          rw [ke] at kr
          exact kr
        · refine OGets.step (fun _ => XS.ifYes X300.here hx rfl (pc0 := 84) (pc' := 95) rfl (hb hby d84m8_84) rfl ((if0 _ _).trans (feq (fun q => hc84_330 ((lw_eq _ _).mp q))).2) (by decide) (by decide)) ?_
          show OGets p e below _ (T300.setTop (mkF m 95 #[.val (.ref ast), .val (.ref ax), .val (.long 0), .second, .val (.long (offF per lo ph)), .second, .unset, .unset, .unset, .unset, .unset, .unset] []))
          refine OGets.step (fun _ => XS.aloadN X300.here hx rfl (hb hby d84m8_95) rfl rfl) ?_
          obtain ⟨T332, X332, e332, st332⟩ := getF X300 hx hZ hown (host := "") (Or.inl (hw _ (List.mem_of_getElem? (i := 41) rfl))) Via.refl e300 (V0.fld 3 rfl 0 rfl rfl) (g := (mkF m 96 #[.val (.ref ast), .val (.ref ax), .val (.long 0), .second, .val (.long (offF per lo ph)), .second, .unset, .unset, .unset, .unset, .unset, .unset] [(.ref ast)])) rfl rfl (hb hby d84m8_96)
          refine OGets.step st332 ?_
          refine OGets.step (fun _ => XS.i2l X332.here hx rfl (hb hby d84m8_99) rfl) ?_
          refine OGets.step (fun _ => XS.lload X332.here hx rfl (hb hby d84m8_100) rfl) ?_
          refine OGets.step (fun _ => XS.lsub X332.here hx rfl (hb hby d84m8_102) rfl) ?_
          refine OGets.step (fun _ => XS.aloadN X332.here hx rfl (hb hby d84m8_103) rfl rfl) ?_
          obtain ⟨T333, X333, e333, st333⟩ := getF X332 hx hZ hown (host := "") (Or.inl (hw _ (List.mem_of_getElem? (i := 45) rfl))) Via.refl e332 (V0.fld 3 rfl 2 rfl rfl) (g := (mkF m 104 #[.val (.ref ast), .val (.ref ax), .val (.long 0), .second, .val (.long (offF per lo ph)), .second, .unset, .unset, .unset, .unset, .unset, .unset] [(.ref ast), (.long ((lo.toInt64) - (offF per lo ph)))])) rfl rfl (hb hby d84m8_104)
          refine OGets.step st333 ?_
          refine OGets.step (fun _ => XS.i2l X333.here hx rfl (hb hby d84m8_107) rfl) ?_
          refine OGets.step (fun _ => XS.ladd X333.here hx rfl (hb hby d84m8_108) rfl) ?_
          show OGets p e below _ (T333.setTop (mkF m 109 #[.val (.ref ast), .val (.ref ax), .val (.long 0), .second, .val (.long (offF per lo ph)), .second, .unset, .unset, .unset, .unset, .unset, .unset] [(.long (((lo.toInt64) - (offF per lo ph)) + (per.toInt64)))]))
          have ke : (nxF per lo ph) = (((lo.toInt64) - (offF per lo ph)) + (per.toInt64)) := if_neg hc84_330
          have kr := K301 _ _ X333 N300 (by rw [e333]; exact Z0) (by rw [e333]; exact V0)
          rw [ke] at kr
          exact kr
      · refine OGets.step (fun _ => XS.icmpNo X292.here hx rfl (hb hby d84m8_29) rfl (flt hc29_293).1) ?_
        show OGets p e below _ (T292.setTop (mkF m 32 #[.val (.ref ast), .val (.ref ax), .val (.long 0), .second, .unset, .unset, .unset, .unset, .unset, .unset, .unset, .unset] []))
        refine OGets.step (fun _ => XS.aloadN X292.here hx rfl (hb hby d84m8_32) rfl rfl) ?_
        refine OGets.step (fun _ => XS.aloadN X292.here hx rfl (hb hby d84m8_33) rfl rfl) ?_
        obtain ⟨T334, X334, e334, st334⟩ := getF X292 hx hZ hown (host := "") (Or.inl (hw _ (List.mem_of_getElem? (i := 41) rfl))) Via.refl e292 (V0.fld 3 rfl 0 rfl rfl) (g := (mkF m 34 #[.val (.ref ast), .val (.ref ax), .val (.long 0), .second, .unset, .unset, .unset, .unset, .unset, .unset, .unset, .unset] [(.ref ast), (.ref ax)])) rfl rfl (hb hby d84m8_34)
        refine OGets.step st334 ?_
        refine OGets.step (fun _ => XS.aloadN X334.here hx rfl (hb hby d84m8_37) rfl rfl) ?_
        obtain ⟨T335, X335, e335, st335⟩ := getF X334 hx hZ hown (host := "") (Or.inl (hw _ (List.mem_of_getElem? (i := 43) rfl))) Via.refl e334 (V0.fld 3 rfl 1 rfl rfl) (g := (mkF m 38 #[.val (.ref ast), .val (.ref ax), .val (.long 0), .second, .unset, .unset, .unset, .unset, .unset, .unset, .unset, .unset] [(.ref ast), (.int lo), (.ref ax)])) rfl rfl (hb hby d84m8_38)
        refine OGets.step st335 ?_
        obtain ⟨cq336, kq336, q336a, q336b, q336c⟩ := isOf hZ e335 (V0.exa 0 rfl)
        obtain ⟨_, _, ⟨T336, L336, k336, n336⟩, -, X336, ⟨Lc336, hQ336, l336, y336, z336⟩, st336⟩ := X335.interfaceBack hx (xi := (⟨"com/example/pelt/pelt/Strand$Parts", "range", "(II)J"⟩ : MethodName)) (y := (⟨"com/example/pelt/pelt/StackCounts$2", "range", "(II)J"⟩ : MethodName)) hown (mvT hZ (hw _ (List.mem_of_getElem? (i := 90) rfl))) (mvT hZ (hw _ (List.mem_of_getElem? (i := 91) rfl))) (mvT hZ (hw _ (List.mem_of_getElem? (i := 92) rfl))) (mvT hZ (hw _ (List.mem_of_getElem? (i := 93) rfl))) (mvT hZ (hw _ (List.mem_of_getElem? (i := 94) rfl))) (mvT hZ (hw _ (List.mem_of_getElem? (i := 95) rfl))) (mvT hZ (hw _ (List.mem_of_getElem? (i := 96) rfl))) (mvT hZ (hw _ (List.mem_of_getElem? (i := 97) rfl))) (by decide) (backOf (W := 0) (rm_rg l Z a0 hw [] ax ao ast au ac .null .null per hg lo hi CC h0 n0 (oS ast [(.int lo), (.int hi), (.int per), (.int ph), (.int wd)] :: F) Z0 (by simp only [hlC]) H.f.1.1 H.f.1.2 V0) hZ (hw _ (List.mem_of_getElem? (i := 98) rfl)) (hw _ (List.mem_of_getElem? (i := 58) rfl)) (by decide) (by decide)) q336a q336b q336c (g := (mkF m 41 #[.val (.ref ast), .val (.ref ax), .val (.long 0), .second, .unset, .unset, .unset, .unset, .unset, .unset, .unset, .unset] [(.int hi), (.int lo), (.ref ax)])) rfl (by rw [hml]; rfl) (Steps.refl _) (argsL := [(.int lo), (.int hi)]) (rest := []) (lenOf pd_7 rfl) rfl (by show 2 * 0 + _ ≤ _; exact Nat.le_of_eq rfl) (hb hby d84m8_41) (fun _ _ => ⟨rfl, e335, Nat.le_of_ble_eq_true rfl, Nat.le_of_ble_eq_true rfl⟩)
        dsimp only [Pt.U, Pt.locs, Pt.cells, Pt.slots] at X336 l336 y336 z336 st336 hQ336
        rw [l336, y336, z336] at X336
        obtain ⟨rfl, N336q, V336⟩ := hQ336
        have N336 := Fr.app N0 N336q
        have V336v : OView Z n0 T336.heap (oX ax [(.ref ao), (.ref ast)] :: oC ao [(.int per), (.ref au), (.ref ac), .null, .null, (.int hg)] :: oA ac (rgF CC lo hi) :: oS ast [(.int lo), (.int hi), (.int per), (.int ph), (.int wd)] :: F) := V336
        have Z336 : n0 ≤ T336.heap.size := V336v.big 0 rfl
        refine OGets.after st336 ?_
        refine OGets.step (fun _ => XS.lstoreN X336.here hx rfl (hb hby d84m8_46) rfl (l' := #[.val (.ref ast), .val (.ref ax), .val (.long 0), .second, .unset, .unset, .unset, .unset, .unset, .unset, .unset, .unset]) rfl) ?_
        refine OGets.step (fun _ => XS.goto X336.here hx rfl (pc0 := 47) (pc' := 309) rfl (hb hby d84m8_47) (by decide) (by decide)) ?_
        refine OGets.step (fun _ => XS.lloadN X336.here hx rfl (hb hby d84m8_309) rfl) ?_
        refine OGets.retJ X336 hx hlk Bd.returns (hb hby d84m8_310) (Nat.le_of_ble_eq_true rfl) (Nat.le_of_ble_eq_true rfl) ?_
        have t1 : spN per lo hi ph wd CC = (rgF CC lo hi) := (if_neg hc10_282).trans ((if_neg hc18_287).trans (if_neg hc29_293))
        refine ⟨rfl, N336, ?_⟩
        rw [t1]
        exact V336v
theorem d84m8_235 : decode prog_84_method_8_code 235 = .ok (.lload_n 2, 1) := by decide +kernel
theorem d84m8_236 : decode prog_84_method_8_code 236 = .ok (.aload_n 1, 1) := by decide +kernel
theorem d84m8_237 : decode prog_84_method_8_code 237 = .ok (.lload 6, 2) := by decide +kernel
theorem d84m8_239 : decode prog_84_method_8_code 239 = .ok (.l2i, 1) := by decide +kernel
theorem d84m8_240 : decode prog_84_method_8_code 240 = .ok (.lload 8, 2) := by decide +kernel
theorem d84m8_242 : decode prog_84_method_8_code 242 = .ok (.l2i, 1) := by decide +kernel
theorem d84m8_243 : decode prog_84_method_8_code 243 = .ok (.invokeinterface 49 3, 5) := by decide +kernel
theorem d84m8_248 : decode prog_84_method_8_code 248 = .ok (.ladd, 1) := by decide +kernel
theorem d84m8_249 : decode prog_84_method_8_code 249 = .ok (.lstore_n 2, 1) := by decide +kernel
theorem d84m8_250 : decode prog_84_method_8_code 250 = .ok (.goto 32, 3) := by decide +kernel
theorem ef_spB (m : MethodId) (x0 : Addr) (x1 : Addr) : entryFrame m #[(.ref x0), (.ref x1)] 12 = mkF m 0 #[.val (.ref x0), .val (.ref x1), .unset, .unset, .unset, .unset, .unset, .unset, .unset, .unset, .unset, .unset] [] := by first | (simp [entryFrame, mkF, argsToLocals, Value.category]; done) | rfl
def Q_spB (Z : State) (ax : Addr) (ao : Addr) (ast : Addr) (au : Addr) (ac : Addr) (ab : Addr) (ay : Addr) (lo : Int32) (hi : Int32) (per : Int32) (ph : Int32) (wd : Int32) (hg : Int32) (CC : List Int32) (BB : List Int32) (h0 : Heap) (n0 : Nat) (F : List (Addr × OObj)) (v : Option Value) (h : Heap) (L : List Loc) : Prop := v = some (.long 0) ∧ Fr n0 L ∧ OView Z n0 h (oX ax [(.ref ao), (.ref ast)] :: oC ao [(.int per), (.ref au), (.ref ac), (.ref ab), (.ref ay), (.int hg)] :: oA ac (spB per lo hi ph wd CC BB).1 :: oS ast [(.int lo), (.int hi), (.int per), (.int ph), (.int wd)] :: oA ab (spB per lo hi ph wd CC BB).2 :: F)
set_option maxRecDepth 65536 in
set_option maxHeartbeats 40000000 in
theorem rm_spB (l : Launch) (Z : State) (a0 : Array Value) (hw : ∀ d ∈ tables_1, d.before a0 Z = true) (ws : List Jvm.Cond) (ax : Addr) (ao : Addr) (ast : Addr) (au : Addr) (ac : Addr) (ab : Addr) (ay : Addr) (lo : Int32) (hi : Int32) (per : Int32) (ph : Int32) (wd : Int32) (hg : Int32) (CC : List Int32) (BB : List Int32) (h0 : Heap) (n0 : Nat) (F : List (Addr × OObj)) (Z0 : n0 ≤ h0.size) (H : Dom per lo hi ph wd) (hB : (1 : Int32) < per ∧ per < (5 : Int32)) (hlC : CC.length = 5) (hlB : BB.length = 5) (V0 : OView Z n0 h0 (oX ax [(.ref ao), (.ref ast)] :: oC ao [(.int per), (.ref au), (.ref ac), (.ref ab), (.ref ay), (.int hg)] :: oA ac CC :: oS ast [(.int lo), (.int hi), (.int per), (.int ph), (.int wd)] :: oA ab BB :: F)) :
    MetFree l (⟨"com/example/pelt/pelt/Strand", "split", "(Lcom/example/pelt/pelt/Strand$Parts;)J"⟩ : MethodName) (head1 (Jvm.Cond.code (⟨"com/example/pelt/pelt/Strand", "split", "(Lcom/example/pelt/pelt/Strand$Parts;)J"⟩ : MethodName) prog_84_method_8_code 12 (some .long) :: ws) ({ frames := 2, cells := 0, slots := 0, locals := 34 } : Room)) (fun a_ U => a_ = #[(.ref ast), (.ref ax)] ∧ Z.Warmed39 U.vm ∧ U.heap = h0) (fun _ _ _ _ _ => True) (fun _ U o U' => ∃ v L, o = .returned v ∧ Q_spB Z ax ao ast au ac ab ay lo hi per ph wd hg CC BB h0 n0 F v U'.heap L ∧ FrameEnd U o U' L ({ frames := 2, cells := 0, slots := 0, locals := 34 } : Room).cells ({ frames := 2, cells := 0, slots := 0, locals := 34 } : Room).slots) := by
  refine MetFree.of_bodySF (plainFor_of_name pn_1) hisR ?_
  intro p e s m args below meth c s₁ Bd hml0 hP hK
  obtain ⟨rfl, hZ, hh⟩ := hP
  have hx := Bd.exec
  have hby := Bd.bytes
  have hlk : meth.locks = false := Bd.notSynchronized
  have hml : c.maxLocals = 12 := hml0
  have hown : s.vm.findClass "com/example/pelt/pelt/Strand" = some m.cls := findClass_of_methodNamed Bd.named
  have hnm := (name_of_methodNamed Bd.named Bd.method).1
  have X0 : Stand p l e ({ frames := 2, cells := 0, slots := 0, locals := 34 } : Room) s m #[(.ref ast), (.ref ax)] below meth c s₁ [] 0 0 := Stand.of_body Bd
  have e0 : s₁.heap = h0 := by rw [← hh, Bd.state]; rfl
  have N0 := Fr.nil n0
  show OGets p e below (OLeaves s (Q_spB Z ax ao ast au ac ab ay lo hi per ph wd hg CC BB h0 n0 F ) ({ frames := 2, cells := 0, slots := 0, locals := 34 } : Room).cells ({ frames := 2, cells := 0, slots := 0, locals := 34 } : Room).slots) _
  refine OGets.enter (ef_spB m ast ax) ?_
  show OGets p e below _ (s₁.setTop (mkF m 0 #[.val (.ref ast), .val (.ref ax), .unset, .unset, .unset, .unset, .unset, .unset, .unset, .unset, .unset, .unset] []))
  refine OGets.step (fun _ => XS.lconst X0.here hx rfl (hb hby d84m8_0)) ?_
  refine OGets.step (fun _ => XS.lstoreN X0.here hx rfl (hb hby d84m8_1) rfl (l' := #[.val (.ref ast), .val (.ref ax), .val (.long 0), .second, .unset, .unset, .unset, .unset, .unset, .unset, .unset, .unset]) rfl) ?_
  refine OGets.step (fun _ => XS.aloadN X0.here hx rfl (hb hby d84m8_2) rfl rfl) ?_
  obtain ⟨T337, X337, e337, st337⟩ := getF X0 hx hZ hown (host := "") (Or.inl (hw _ (List.mem_of_getElem? (i := 41) rfl))) Via.refl e0 (V0.fld 3 rfl 0 rfl rfl) (g := (mkF m 3 #[.val (.ref ast), .val (.ref ax), .val (.long 0), .second, .unset, .unset, .unset, .unset, .unset, .unset, .unset, .unset] [(.ref ast)])) rfl rfl (hb hby d84m8_3)
  refine OGets.step st337 ?_
  refine OGets.step (fun _ => XS.aloadN X337.here hx rfl (hb hby d84m8_6) rfl rfl) ?_
  obtain ⟨T338, X338, e338, st338⟩ := getF X337 hx hZ hown (host := "") (Or.inl (hw _ (List.mem_of_getElem? (i := 43) rfl))) Via.refl e337 (V0.fld 3 rfl 1 rfl rfl) (g := (mkF m 7 #[.val (.ref ast), .val (.ref ax), .val (.long 0), .second, .unset, .unset, .unset, .unset, .unset, .unset, .unset, .unset] [(.ref ast), (.int lo)])) rfl rfl (hb hby d84m8_7)
  refine OGets.step st338 ?_
  by_cases hc10_339 : hi < lo
  · refine OGets.step (fun _ => XS.icmpYes X338.here hx rfl (pc0 := 10) (pc' := 50) rfl (hb hby d84m8_10) rfl (tlt hc10_339).2.2.1 (by decide) (by decide)) ?_
    show OGets p e below _ (T338.setTop (mkF m 50 #[.val (.ref ast), .val (.ref ax), .val (.long 0), .second, .unset, .unset, .unset, .unset, .unset, .unset, .unset, .unset] []))
    refine OGets.step (fun _ => XS.aloadN X338.here hx rfl (hb hby d84m8_50) rfl rfl) ?_
    obtain ⟨T340, X340, e340, st340⟩ := getF X338 hx hZ hown (host := "") (Or.inl (hw _ (List.mem_of_getElem? (i := 41) rfl))) Via.refl e338 (V0.fld 3 rfl 0 rfl rfl) (g := (mkF m 51 #[.val (.ref ast), .val (.ref ax), .val (.long 0), .second, .unset, .unset, .unset, .unset, .unset, .unset, .unset, .unset] [(.ref ast)])) rfl rfl (hb hby d84m8_51)
    refine OGets.step st340 ?_
    refine OGets.step (fun _ => XS.aloadN X340.here hx rfl (hb hby d84m8_54) rfl rfl) ?_
    obtain ⟨T341, X341, e341, st341⟩ := getF X340 hx hZ hown (host := "") (Or.inl (hw _ (List.mem_of_getElem? (i := 43) rfl))) Via.refl e340 (V0.fld 3 rfl 1 rfl rfl) (g := (mkF m 55 #[.val (.ref ast), .val (.ref ax), .val (.long 0), .second, .unset, .unset, .unset, .unset, .unset, .unset, .unset, .unset] [(.ref ast), (.int lo)])) rfl rfl (hb hby d84m8_55)
    refine OGets.step st341 ?_
    refine OGets.step (fun _ => XS.icmpYes X341.here hx rfl (pc0 := 58) (pc' := 309) rfl (hb hby d84m8_58) rfl (tlt (hc10_339 : hi < lo)).2.2.1 (by decide) (by decide)) ?_
    refine OGets.step (fun _ => XS.lloadN X341.here hx rfl (hb hby d84m8_309) rfl) ?_
    refine OGets.retJ X341 hx hlk Bd.returns (hb hby d84m8_310) (Nat.le_of_ble_eq_true rfl) (Nat.le_of_ble_eq_true rfl) ?_
    have t1 : spB per lo hi ph wd CC BB = (CC, BB) := if_pos hc10_339
    rw [e341]
    refine ⟨rfl, N0, ?_⟩
    rw [t1]
    exact V0
  · refine OGets.step (fun _ => XS.icmpNo X338.here hx rfl (hb hby d84m8_10) rfl (flt hc10_339).2.2.1) ?_
    show OGets p e below _ (T338.setTop (mkF m 13 #[.val (.ref ast), .val (.ref ax), .val (.long 0), .second, .unset, .unset, .unset, .unset, .unset, .unset, .unset, .unset] []))
    refine OGets.step (fun _ => XS.aloadN X338.here hx rfl (hb hby d84m8_13) rfl rfl) ?_
    obtain ⟨T343, X343, e343, st343⟩ := getF X338 hx hZ hown (host := "") (Or.inl (hw _ (List.mem_of_getElem? (i := 45) rfl))) Via.refl e338 (V0.fld 3 rfl 2 rfl rfl) (g := (mkF m 14 #[.val (.ref ast), .val (.ref ax), .val (.long 0), .second, .unset, .unset, .unset, .unset, .unset, .unset, .unset, .unset] [(.ref ast)])) rfl rfl (hb hby d84m8_14)
    refine OGets.step st343 ?_
    refine OGets.step (fun _ => XS.iconst X343.here hx rfl (hb hby d84m8_17)) ?_
    by_cases hc18_344 : per = (1 : Int32)
    · refine OGets.step (fun _ => XS.icmpYes X343.here hx rfl (pc0 := 18) (pc' := 32) rfl (hb hby d84m8_18) rfl (teq hc18_344).1 (by decide) (by decide)) ?_
      show OGets p e below _ (T343.setTop (mkF m 32 #[.val (.ref ast), .val (.ref ax), .val (.long 0), .second, .unset, .unset, .unset, .unset, .unset, .unset, .unset, .unset] []))
      refine OGets.step (fun _ => XS.aloadN X343.here hx rfl (hb hby d84m8_32) rfl rfl) ?_
      refine OGets.step (fun _ => XS.aloadN X343.here hx rfl (hb hby d84m8_33) rfl rfl) ?_
      obtain ⟨T345, X345, e345, st345⟩ := getF X343 hx hZ hown (host := "") (Or.inl (hw _ (List.mem_of_getElem? (i := 41) rfl))) Via.refl e343 (V0.fld 3 rfl 0 rfl rfl) (g := (mkF m 34 #[.val (.ref ast), .val (.ref ax), .val (.long 0), .second, .unset, .unset, .unset, .unset, .unset, .unset, .unset, .unset] [(.ref ast), (.ref ax)])) rfl rfl (hb hby d84m8_34)
      refine OGets.step st345 ?_
      refine OGets.step (fun _ => XS.aloadN X345.here hx rfl (hb hby d84m8_37) rfl rfl) ?_
      obtain ⟨T346, X346, e346, st346⟩ := getF X345 hx hZ hown (host := "") (Or.inl (hw _ (List.mem_of_getElem? (i := 43) rfl))) Via.refl e345 (V0.fld 3 rfl 1 rfl rfl) (g := (mkF m 38 #[.val (.ref ast), .val (.ref ax), .val (.long 0), .second, .unset, .unset, .unset, .unset, .unset, .unset, .unset, .unset] [(.ref ast), (.int lo), (.ref ax)])) rfl rfl (hb hby d84m8_38)
      refine OGets.step st346 ?_
      obtain ⟨cq347, kq347, q347a, q347b, q347c⟩ := isOf hZ e346 (V0.exa 0 rfl)
      obtain ⟨_, _, ⟨T347, L347, k347, n347⟩, -, X347, ⟨Lc347, hQ347, l347, y347, z347⟩, st347⟩ := X346.interfaceBack hx (xi := (⟨"com/example/pelt/pelt/Strand$Parts", "range", "(II)J"⟩ : MethodName)) (y := (⟨"com/example/pelt/pelt/StackCounts$2", "range", "(II)J"⟩ : MethodName)) hown (mvT hZ (hw _ (List.mem_of_getElem? (i := 90) rfl))) (mvT hZ (hw _ (List.mem_of_getElem? (i := 91) rfl))) (mvT hZ (hw _ (List.mem_of_getElem? (i := 92) rfl))) (mvT hZ (hw _ (List.mem_of_getElem? (i := 93) rfl))) (mvT hZ (hw _ (List.mem_of_getElem? (i := 94) rfl))) (mvT hZ (hw _ (List.mem_of_getElem? (i := 95) rfl))) (mvT hZ (hw _ (List.mem_of_getElem? (i := 96) rfl))) (mvT hZ (hw _ (List.mem_of_getElem? (i := 97) rfl))) (by decide) (backOf (W := 0) (rm_rg l Z a0 hw [] ax ao ast au ac (.ref ab) (.ref ay) per hg lo hi CC h0 n0 (oS ast [(.int lo), (.int hi), (.int per), (.int ph), (.int wd)] :: oA ab BB :: F) Z0 (by simp only [hlC]) H.f.1.1 H.f.1.2 V0) hZ (hw _ (List.mem_of_getElem? (i := 98) rfl)) (hw _ (List.mem_of_getElem? (i := 58) rfl)) (by decide) (by decide)) q347a q347b q347c (g := (mkF m 41 #[.val (.ref ast), .val (.ref ax), .val (.long 0), .second, .unset, .unset, .unset, .unset, .unset, .unset, .unset, .unset] [(.int hi), (.int lo), (.ref ax)])) rfl (by rw [hml]; rfl) (Steps.refl _) (argsL := [(.int lo), (.int hi)]) (rest := []) (lenOf pd_7 rfl) rfl (by show 2 * 0 + _ ≤ _; exact Nat.le_of_eq rfl) (hb hby d84m8_41) (fun _ _ => ⟨rfl, e346, Nat.le_of_ble_eq_true rfl, Nat.le_of_ble_eq_true rfl⟩)
      dsimp only [Pt.U, Pt.locs, Pt.cells, Pt.slots] at X347 l347 y347 z347 st347 hQ347
      rw [l347, y347, z347] at X347
      obtain ⟨rfl, N347q, V347⟩ := hQ347
      have N347 := Fr.app N0 N347q
      have V347v : OView Z n0 T347.heap (oX ax [(.ref ao), (.ref ast)] :: oC ao [(.int per), (.ref au), (.ref ac), (.ref ab), (.ref ay), (.int hg)] :: oA ac (rgF CC lo hi) :: oS ast [(.int lo), (.int hi), (.int per), (.int ph), (.int wd)] :: oA ab BB :: F) := V347
      have Z347 : n0 ≤ T347.heap.size := V347v.big 0 rfl
      refine OGets.after st347 ?_
      refine OGets.step (fun _ => XS.lstoreN X347.here hx rfl (hb hby d84m8_46) rfl (l' := #[.val (.ref ast), .val (.ref ax), .val (.long 0), .second, .unset, .unset, .unset, .unset, .unset, .unset, .unset, .unset]) rfl) ?_
      refine OGets.step (fun _ => XS.goto X347.here hx rfl (pc0 := 47) (pc' := 309) rfl (hb hby d84m8_47) (by decide) (by decide)) ?_
      refine OGets.step (fun _ => XS.lloadN X347.here hx rfl (hb hby d84m8_309) rfl) ?_
      refine OGets.retJ X347 hx hlk Bd.returns (hb hby d84m8_310) (Nat.le_of_ble_eq_true rfl) (Nat.le_of_ble_eq_true rfl) ?_
      have t1 : spB per lo hi ph wd CC BB = ((rgF CC lo hi), BB) := (if_neg hc10_339).trans (if_pos hc18_344)
      refine ⟨rfl, N347, ?_⟩
      rw [t1]
      exact V347v
    · refine OGets.step (fun _ => XS.icmpNo X343.here hx rfl (hb hby d84m8_18) rfl (feq hc18_344).1) ?_
      show OGets p e below _ (T343.setTop (mkF m 21 #[.val (.ref ast), .val (.ref ax), .val (.long 0), .second, .unset, .unset, .unset, .unset, .unset, .unset, .unset, .unset] []))
      refine OGets.step (fun _ => XS.aloadN X343.here hx rfl (hb hby d84m8_21) rfl rfl) ?_
      obtain ⟨T348, X348, e348, st348⟩ := getF X343 hx hZ hown (host := "") (Or.inl (hw _ (List.mem_of_getElem? (i := 49) rfl))) Via.refl e343 (V0.fld 3 rfl 4 rfl rfl) (g := (mkF m 22 #[.val (.ref ast), .val (.ref ax), .val (.long 0), .second, .unset, .unset, .unset, .unset, .unset, .unset, .unset, .unset] [(.ref ast)])) rfl rfl (hb hby d84m8_22)
      refine OGets.step st348 ?_
      refine OGets.step (fun _ => XS.aloadN X348.here hx rfl (hb hby d84m8_25) rfl rfl) ?_
      obtain ⟨T349, X349, e349, st349⟩ := getF X348 hx hZ hown (host := "") (Or.inl (hw _ (List.mem_of_getElem? (i := 45) rfl))) Via.refl e348 (V0.fld 3 rfl 2 rfl rfl) (g := (mkF m 26 #[.val (.ref ast), .val (.ref ax), .val (.long 0), .second, .unset, .unset, .unset, .unset, .unset, .unset, .unset, .unset] [(.ref ast), (.int wd)])) rfl rfl (hb hby d84m8_26)
      refine OGets.step st349 ?_
      by_cases hc29_350 : wd < per
      · refine OGets.step (fun _ => XS.icmpYes X349.here hx rfl (pc0 := 29) (pc' := 50) rfl (hb hby d84m8_29) rfl (tlt hc29_350).1 (by decide) (by decide)) ?_
        show OGets p e below _ (T349.setTop (mkF m 50 #[.val (.ref ast), .val (.ref ax), .val (.long 0), .second, .unset, .unset, .unset, .unset, .unset, .unset, .unset, .unset] []))
        refine OGets.step (fun _ => XS.aloadN X349.here hx rfl (hb hby d84m8_50) rfl rfl) ?_
        obtain ⟨T351, X351, e351, st351⟩ := getF X349 hx hZ hown (host := "") (Or.inl (hw _ (List.mem_of_getElem? (i := 41) rfl))) Via.refl e349 (V0.fld 3 rfl 0 rfl rfl) (g := (mkF m 51 #[.val (.ref ast), .val (.ref ax), .val (.long 0), .second, .unset, .unset, .unset, .unset, .unset, .unset, .unset, .unset] [(.ref ast)])) rfl rfl (hb hby d84m8_51)
        refine OGets.step st351 ?_
        refine OGets.step (fun _ => XS.aloadN X351.here hx rfl (hb hby d84m8_54) rfl rfl) ?_
        obtain ⟨T352, X352, e352, st352⟩ := getF X351 hx hZ hown (host := "") (Or.inl (hw _ (List.mem_of_getElem? (i := 43) rfl))) Via.refl e351 (V0.fld 3 rfl 1 rfl rfl) (g := (mkF m 55 #[.val (.ref ast), .val (.ref ax), .val (.long 0), .second, .unset, .unset, .unset, .unset, .unset, .unset, .unset, .unset] [(.ref ast), (.int lo)])) rfl rfl (hb hby d84m8_55)
        refine OGets.step st352 ?_
        refine OGets.step (fun _ => XS.icmpNo X352.here hx rfl (hb hby d84m8_58) rfl (flt (hc10_339 : ¬ (hi < lo))).2.2.1) ?_
        refine OGets.step (fun _ => XS.aloadN X352.here hx rfl (hb hby d84m8_61) rfl rfl) ?_
        obtain ⟨T354, X354, e354, st354⟩ := getF X352 hx hZ hown (host := "") (Or.inl (hw _ (List.mem_of_getElem? (i := 41) rfl))) Via.refl e352 (V0.fld 3 rfl 0 rfl rfl) (g := (mkF m 62 #[.val (.ref ast), .val (.ref ax), .val (.long 0), .second, .unset, .unset, .unset, .unset, .unset, .unset, .unset, .unset] [(.ref ast)])) rfl rfl (hb hby d84m8_62)
        refine OGets.step st354 ?_
        refine OGets.step (fun _ => XS.aloadN X354.here hx rfl (hb hby d84m8_65) rfl rfl) ?_
        obtain ⟨T355, X355, e355, st355⟩ := getF X354 hx hZ hown (host := "") (Or.inl (hw _ (List.mem_of_getElem? (i := 47) rfl))) Via.refl e354 (V0.fld 3 rfl 3 rfl rfl) (g := (mkF m 66 #[.val (.ref ast), .val (.ref ax), .val (.long 0), .second, .unset, .unset, .unset, .unset, .unset, .unset, .unset, .unset] [(.ref ast), (.int lo)])) rfl rfl (hb hby d84m8_66)
        refine OGets.step st355 ?_
        refine OGets.step (fun _ => XS.isub X355.here hx rfl (hb hby d84m8_69) rfl) ?_
        refine OGets.step (fun _ => XS.aloadN X355.here hx rfl (hb hby d84m8_70) rfl rfl) ?_
        obtain ⟨T356, X356, e356, st356⟩ := getF X355 hx hZ hown (host := "") (Or.inl (hw _ (List.mem_of_getElem? (i := 45) rfl))) Via.refl e355 (V0.fld 3 rfl 2 rfl rfl) (g := (mkF m 71 #[.val (.ref ast), .val (.ref ax), .val (.long 0), .second, .unset, .unset, .unset, .unset, .unset, .unset, .unset, .unset] [(.ref ast), (.int (lo - ph))])) rfl rfl (hb hby d84m8_71)
        refine OGets.step st356 ?_
        obtain ⟨_, _, ⟨T357, L357, k357, n357⟩, -, X357, ⟨Lc357, hQ357, l357, y357, z357⟩, st357⟩ := Jvm.LawKit.callS X356 hx (y := (⟨"java/lang/Math", "floorMod", "(II)I"⟩ : MethodName)) hown (mvT hZ (hw _ (List.mem_of_getElem? (i := 86) rfl))) (mvT hZ (hw _ (List.mem_of_getElem? (i := 87) rfl))) (mvT hZ (hw _ (List.mem_of_getElem? (i := 88) rfl))) (mvT hZ (hw _ (List.mem_of_getElem? (i := 89) rfl))) (by decide) (backOf (W := 0) (rm_fm l Z a0 hw [] (lo - ph) per h0 n0  Z0 H.f.2.1) hZ (hw _ (List.mem_of_getElem? (i := 89) rfl)) (hw _ (List.mem_of_getElem? (i := 88) rfl)) (by decide) (by decide)) (g := (mkF m 74 #[.val (.ref ast), .val (.ref ax), .val (.long 0), .second, .unset, .unset, .unset, .unset, .unset, .unset, .unset, .unset] [(.int per), (.int (lo - ph))])) rfl (by rw [hml]; rfl) (argsL := [(.int (lo - ph)), (.int per)]) (rest := []) (lenOf pd_8 rfl) rfl (by show 2 * 0 + _ ≤ _; exact Nat.le_of_eq rfl) (hb hby d84m8_74) (fun _ _ => ⟨rfl, e356, Nat.le_of_ble_eq_true rfl, Nat.le_of_ble_eq_true rfl⟩)
        dsimp only [Pt.U, Pt.locs, Pt.cells, Pt.slots] at X357 l357 y357 z357 st357 hQ357
        rw [l357, y357, z357] at X357
        obtain ⟨rfl, rfl, e357⟩ := hQ357
        have N357 := Fr.app N0 (Fr.nil n0)
        refine OGets.step st357 ?_
        refine OGets.step (fun _ => XS.i2l X357.here hx rfl (hb hby d84m8_77) rfl) ?_
        show OGets p e below _ (T357.setTop (mkF m 78 #[.val (.ref ast), .val (.ref ax), .val (.long 0), .second, .unset, .unset, .unset, .unset, .unset, .unset, .unset, .unset] [(.long (offF per lo ph))]))
        refine OGets.step (fun _ => XS.lstore X357.here hx rfl (hb hby d84m8_78) rfl (l' := #[.val (.ref ast), .val (.ref ax), .val (.long 0), .second, .val (.long (offF per lo ph)), .second, .unset, .unset, .unset, .unset, .unset, .unset]) rfl) ?_
        have K358 : ∀ (T358 : State) (lj358 : List Loc), Stand p l e ({ frames := 2, cells := 0, slots := 0, locals := 34 } : Room) s m #[(.ref ast), (.ref ax)] below meth c T358 lj358 0 0 → Fr n0 lj358 → n0 ≤ T358.heap.size → OView Z n0 T358.heap (oX ax [(.ref ao), (.ref ast)] :: oC ao [(.int per), (.ref au), (.ref ac), (.ref ab), (.ref ay), (.int hg)] :: oA ac CC :: oS ast [(.int lo), (.int hi), (.int per), (.int ph), (.int wd)] :: oA ab BB :: F) → OGets p e below (OLeaves s (Q_spB Z ax ao ast au ac ab ay lo hi per ph wd hg CC BB h0 n0 F ) ({ frames := 2, cells := 0, slots := 0, locals := 34 } : Room).cells ({ frames := 2, cells := 0, slots := 0, locals := 34 } : Room).slots) (T358.setTop (mkF m 109 #[.val (.ref ast), .val (.ref ax), .val (.long 0), .second, .val (.long (offF per lo ph)), .second, .unset, .unset, .unset, .unset, .unset, .unset] [(.long (nxF per lo ph))])) := by
          intro T358 lj358 X358 N358 Z358 V358
          show OGets p e below _ (T358.setTop (mkF m 109 #[.val (.ref ast), .val (.ref ax), .val (.long 0), .second, .val (.long (offF per lo ph)), .second, .unset, .unset, .unset, .unset, .unset, .unset] [(.long (nxF per lo ph))]))
          refine OGets.step (fun _ => XS.lstore X358.here hx rfl (hb hby d84m8_109) rfl (l' := #[.val (.ref ast), .val (.ref ax), .val (.long 0), .second, .val (.long (offF per lo ph)), .second, .val (.long (nxF per lo ph)), .second, .unset, .unset, .unset, .unset]) rfl) ?_
          have K359 : ∀ (T359 : State) (lj359 : List Loc), Stand p l e ({ frames := 2, cells := 0, slots := 0, locals := 34 } : Room) s m #[(.ref ast), (.ref ax)] below meth c T359 lj359 0 0 → Fr n0 lj359 → n0 ≤ T359.heap.size → OView Z n0 T359.heap (oX ax [(.ref ao), (.ref ast)] :: oC ao [(.int per), (.ref au), (.ref ac), (.ref ab), (.ref ay), (.int hg)] :: oA ac CC :: oS ast [(.int lo), (.int hi), (.int per), (.int ph), (.int wd)] :: oA ab BB :: F) → OGets p e below (OLeaves s (Q_spB Z ax ao ast au ac ab ay lo hi per ph wd hg CC BB h0 n0 F ) ({ frames := 2, cells := 0, slots := 0, locals := 34 } : Room).cells ({ frames := 2, cells := 0, slots := 0, locals := 34 } : Room).slots) (T359.setTop (mkF m 157 #[.val (.ref ast), .val (.ref ax), .val (.long 0), .second, .val (.long (offF per lo ph)), .second, .val (.long (nxF per lo ph)), .second, .unset, .unset, .unset, .unset] [(.long (cnF per lo hi ph wd))])) := by
            intro T359 lj359 X359 N359 Z359 V359
            show OGets p e below _ (T359.setTop (mkF m 157 #[.val (.ref ast), .val (.ref ax), .val (.long 0), .second, .val (.long (offF per lo ph)), .second, .val (.long (nxF per lo ph)), .second, .unset, .unset, .unset, .unset] [(.long (cnF per lo hi ph wd))]))
            refine OGets.step (fun _ => XS.lstore X359.here hx rfl (hb hby d84m8_157) rfl (l' := #[.val (.ref ast), .val (.ref ax), .val (.long 0), .second, .val (.long (offF per lo ph)), .second, .val (.long (nxF per lo ph)), .second, .val (.long (cnF per lo hi ph wd)), .second, .unset, .unset]) rfl) ?_
            refine OGets.step (fun _ => XS.lload X359.here hx rfl (hb hby d84m8_159) rfl) ?_
            refine OGets.step (fun _ => XS.lload X359.here hx rfl (hb hby d84m8_161) rfl) ?_
            refine OGets.step (fun _ => XS.aloadN X359.here hx rfl (hb hby d84m8_163) rfl rfl) ?_
            obtain ⟨T360, X360, e360, st360⟩ := getF X359 hx hZ hown (host := "") (Or.inl (hw _ (List.mem_of_getElem? (i := 45) rfl))) Via.refl rfl (V359.fld 3 rfl 2 rfl rfl) (g := (mkF m 164 #[.val (.ref ast), .val (.ref ax), .val (.long 0), .second, .val (.long (offF per lo ph)), .second, .val (.long (nxF per lo ph)), .second, .val (.long (cnF per lo hi ph wd)), .second, .unset, .unset] [(.ref ast), (.long (cnF per lo hi ph wd)), (.long (nxF per lo ph))])) rfl rfl (hb hby d84m8_164)
            refine OGets.step st360 ?_
            refine OGets.step (fun _ => XS.i2l X360.here hx rfl (hb hby d84m8_167) rfl) ?_
            refine OGets.step (fun _ => XS.lmul X360.here hx rfl (hb hby d84m8_168) rfl) ?_
            refine OGets.step (fun _ => XS.ladd X360.here hx rfl (hb hby d84m8_169) rfl) ?_
            show OGets p e below _ (T360.setTop (mkF m 170 #[.val (.ref ast), .val (.ref ax), .val (.long 0), .second, .val (.long (offF per lo ph)), .second, .val (.long (nxF per lo ph)), .second, .val (.long (cnF per lo hi ph wd)), .second, .unset, .unset] [(.long (afF per lo hi ph wd))]))
            refine OGets.step (fun _ => XS.lstore X360.here hx rfl (hb hby d84m8_170) rfl (l' := #[.val (.ref ast), .val (.ref ax), .val (.long 0), .second, .val (.long (offF per lo ph)), .second, .val (.long (nxF per lo ph)), .second, .val (.long (cnF per lo hi ph wd)), .second, .val (.long (afF per lo hi ph wd)), .second]) rfl) ?_
            have K361 : ∀ (T361 : State) (lj361 : List Loc), Stand p l e ({ frames := 2, cells := 0, slots := 0, locals := 34 } : Room) s m #[(.ref ast), (.ref ax)] below meth c T361 lj361 0 0 → Fr n0 lj361 → n0 ≤ T361.heap.size → OView Z n0 T361.heap (oX ax [(.ref ao), (.ref ast)] :: oC ao [(.int per), (.ref au), (.ref ac), (.ref ab), (.ref ay), (.int hg)] :: oA ac (s1F per lo hi ph wd CC) :: oS ast [(.int lo), (.int hi), (.int per), (.int ph), (.int wd)] :: oA ab BB :: F) → OGets p e below (OLeaves s (Q_spB Z ax ao ast au ac ab ay lo hi per ph wd hg CC BB h0 n0 F ) ({ frames := 2, cells := 0, slots := 0, locals := 34 } : Room).cells ({ frames := 2, cells := 0, slots := 0, locals := 34 } : Room).slots) (T361.setTop (mkF m 228 #[.val (.ref ast), .val (.ref ax), .val (.long 0), .second, .val (.long (offF per lo ph)), .second, .val (.long (nxF per lo ph)), .second, .val (.long (cnF per lo hi ph wd)), .second, .val (.long (afF per lo hi ph wd)), .second] [])) := by
              intro T361 lj361 X361 N361 Z361 V361
              have K362 : ∀ (T362 : State) (lj362 : List Loc), Stand p l e ({ frames := 2, cells := 0, slots := 0, locals := 34 } : Room) s m #[(.ref ast), (.ref ax)] below meth c T362 lj362 0 0 → Fr n0 lj362 → n0 ≤ T362.heap.size → OView Z n0 T362.heap (oX ax [(.ref ao), (.ref ast)] :: oC ao [(.int per), (.ref au), (.ref ac), (.ref ab), (.ref ay), (.int hg)] :: oA ac (s2B per lo hi ph wd (s1F per lo hi ph wd CC) BB).1 :: oS ast [(.int lo), (.int hi), (.int per), (.int ph), (.int wd)] :: oA ab (s2B per lo hi ph wd (s1F per lo hi ph wd CC) BB).2 :: F) → OGets p e below (OLeaves s (Q_spB Z ax ao ast au ac ab ay lo hi per ph wd hg CC BB h0 n0 F ) ({ frames := 2, cells := 0, slots := 0, locals := 34 } : Room).cells ({ frames := 2, cells := 0, slots := 0, locals := 34 } : Room).slots) (T362.setTop (mkF m 282 #[.val (.ref ast), .val (.ref ax), .val (.long 0), .second, .val (.long (offF per lo ph)), .second, .val (.long (nxF per lo ph)), .second, .val (.long (cnF per lo hi ph wd)), .second, .val (.long (afF per lo hi ph wd)), .second] [])) := by
                intro T362 lj362 X362 N362 Z362 V362
                have K363 : ∀ (T363 : State) (lj363 : List Loc), Stand p l e ({ frames := 2, cells := 0, slots := 0, locals := 34 } : Room) s m #[(.ref ast), (.ref ax)] below meth c T363 lj363 0 0 → Fr n0 lj363 → n0 ≤ T363.heap.size → OView Z n0 T363.heap (oX ax [(.ref ao), (.ref ast)] :: oC ao [(.int per), (.ref au), (.ref ac), (.ref ab), (.ref ay), (.int hg)] :: oA ac (s3F per lo hi ph wd (s2B per lo hi ph wd (s1F per lo hi ph wd CC) BB).1) :: oS ast [(.int lo), (.int hi), (.int per), (.int ph), (.int wd)] :: oA ab (s2B per lo hi ph wd (s1F per lo hi ph wd CC) BB).2 :: F) → OGets p e below (OLeaves s (Q_spB Z ax ao ast au ac ab ay lo hi per ph wd hg CC BB h0 n0 F ) ({ frames := 2, cells := 0, slots := 0, locals := 34 } : Room).cells ({ frames := 2, cells := 0, slots := 0, locals := 34 } : Room).slots) (T363.setTop (mkF m 309 #[.val (.ref ast), .val (.ref ax), .val (.long 0), .second, .val (.long (offF per lo ph)), .second, .val (.long (nxF per lo ph)), .second, .val (.long (cnF per lo hi ph wd)), .second, .val (.long (afF per lo hi ph wd)), .second] [])) := by
                  intro T363 lj363 X363 N363 Z363 V363
                  show OGets p e below _ (T363.setTop (mkF m 309 #[.val (.ref ast), .val (.ref ax), .val (.long 0), .second, .val (.long (offF per lo ph)), .second, .val (.long (nxF per lo ph)), .second, .val (.long (cnF per lo hi ph wd)), .second, .val (.long (afF per lo hi ph wd)), .second] []))
                  refine OGets.step (fun _ => XS.lloadN X363.here hx rfl (hb hby d84m8_309) rfl) ?_
                  refine OGets.retJ X363 hx hlk Bd.returns (hb hby d84m8_310) (Nat.le_of_ble_eq_true rfl) (Nat.le_of_ble_eq_true rfl) ?_
                  have t1 : spB per lo hi ph wd CC BB = ((s3F per lo hi ph wd (s2B per lo hi ph wd (s1F per lo hi ph wd CC) BB).1), (s2B per lo hi ph wd (s1F per lo hi ph wd CC) BB).2) := (if_neg hc10_339).trans ((if_neg hc18_344).trans (if_pos hc29_350))
                  refine ⟨rfl, N363, ?_⟩
                  rw [t1]
                  exact V363
                show OGets p e below _ (T362.setTop (mkF m 282 #[.val (.ref ast), .val (.ref ax), .val (.long 0), .second, .val (.long (offF per lo ph)), .second, .val (.long (nxF per lo ph)), .second, .val (.long (cnF per lo hi ph wd)), .second, .val (.long (afF per lo hi ph wd)), .second] []))
                refine OGets.step (fun _ => XS.lload X362.here hx rfl (hb hby d84m8_282) rfl) ?_
                refine OGets.step (fun _ => XS.aloadN X362.here hx rfl (hb hby d84m8_284) rfl rfl) ?_
                obtain ⟨T364, X364, e364, st364⟩ := getF X362 hx hZ hown (host := "") (Or.inl (hw _ (List.mem_of_getElem? (i := 43) rfl))) Via.refl rfl (V362.fld 3 rfl 1 rfl rfl) (g := (mkF m 285 #[.val (.ref ast), .val (.ref ax), .val (.long 0), .second, .val (.long (offF per lo ph)), .second, .val (.long (nxF per lo ph)), .second, .val (.long (cnF per lo hi ph wd)), .second, .val (.long (afF per lo hi ph wd)), .second] [(.ref ast), (.long (afF per lo hi ph wd))])) rfl rfl (hb hby d84m8_285)
                refine OGets.step st364 ?_
                refine OGets.step (fun _ => XS.i2l X364.here hx rfl (hb hby d84m8_288) rfl) ?_
                refine OGets.step (fun _ => XS.lcmp X364.here hx rfl (hb hby d84m8_289) rfl) ?_
                by_cases hc290_365 : (hi.toInt64) < (afF per lo hi ph wd)
                · refine OGets.step (fun _ => XS.ifYes X364.here hx rfl (pc0 := 290) (pc' := 309) rfl (hb hby d84m8_290) rfl ((if0 _ _).trans (tlt ((lw_gt _ _).mpr hc290_365)).2.2.1) (by decide) (by decide)) ?_
                  show OGets p e below _ (T364.setTop (mkF m 309 #[.val (.ref ast), .val (.ref ax), .val (.long 0), .second, .val (.long (offF per lo ph)), .second, .val (.long (nxF per lo ph)), .second, .val (.long (cnF per lo hi ph wd)), .second, .val (.long (afF per lo hi ph wd)), .second] []))
                  have kq0 : (s3F per lo hi ph wd (s2B per lo hi ph wd (s1F per lo hi ph wd CC) BB).1) = (s2B per lo hi ph wd (s1F per lo hi ph wd CC) BB).1 := if_pos hc290_365
                  exact K363 _ _ X364 N362 (by rw [e364]; exact Z362) (by rw [e364]; rw [kq0]; exact V362)
                · refine OGets.step (fun _ => XS.ifNo X364.here hx rfl (hb hby d84m8_290) rfl ((if0 _ _).trans (flt (fun q => hc290_365 ((lw_gt _ _).mp q))).2.2.1)) ?_
                  show OGets p e below _ (T364.setTop (mkF m 293 #[.val (.ref ast), .val (.ref ax), .val (.long 0), .second, .val (.long (offF per lo ph)), .second, .val (.long (nxF per lo ph)), .second, .val (.long (cnF per lo hi ph wd)), .second, .val (.long (afF per lo hi ph wd)), .second] []))
                  refine OGets.step (fun _ => XS.lloadN X364.here hx rfl (hb hby d84m8_293) rfl) ?_
                  refine OGets.step (fun _ => XS.aloadN X364.here hx rfl (hb hby d84m8_294) rfl rfl) ?_
                  refine OGets.step (fun _ => XS.lload X364.here hx rfl (hb hby d84m8_295) rfl) ?_
                  refine OGets.step (fun _ => XS.l2i X364.here hx rfl (hb hby d84m8_297) rfl) ?_
                  refine OGets.step (fun _ => XS.aloadN X364.here hx rfl (hb hby d84m8_298) rfl rfl) ?_
                  obtain ⟨T366, X366, e366, st366⟩ := getF X364 hx hZ hown (host := "") (Or.inl (hw _ (List.mem_of_getElem? (i := 43) rfl))) Via.refl e364 (V362.fld 3 rfl 1 rfl rfl) (g := (mkF m 299 #[.val (.ref ast), .val (.ref ax), .val (.long 0), .second, .val (.long (offF per lo ph)), .second, .val (.long (nxF per lo ph)), .second, .val (.long (cnF per lo hi ph wd)), .second, .val (.long (afF per lo hi ph wd)), .second] [(.ref ast), (.int ((afF per lo hi ph wd).toInt32)), (.ref ax), (.long 0)])) rfl rfl (hb hby d84m8_299)
                  refine OGets.step st366 ?_
                  obtain ⟨cq367, kq367, q367a, q367b, q367c⟩ := isOf hZ e366 (V362.exa 0 rfl)
                  obtain ⟨_, _, ⟨T367, L367, k367, n367⟩, -, X367, ⟨Lc367, hQ367, l367, y367, z367⟩, st367⟩ := X366.interfaceBack hx (xi := (⟨"com/example/pelt/pelt/Strand$Parts", "range", "(II)J"⟩ : MethodName)) (y := (⟨"com/example/pelt/pelt/StackCounts$2", "range", "(II)J"⟩ : MethodName)) hown (mvT hZ (hw _ (List.mem_of_getElem? (i := 90) rfl))) (mvT hZ (hw _ (List.mem_of_getElem? (i := 91) rfl))) (mvT hZ (hw _ (List.mem_of_getElem? (i := 92) rfl))) (mvT hZ (hw _ (List.mem_of_getElem? (i := 93) rfl))) (mvT hZ (hw _ (List.mem_of_getElem? (i := 94) rfl))) (mvT hZ (hw _ (List.mem_of_getElem? (i := 95) rfl))) (mvT hZ (hw _ (List.mem_of_getElem? (i := 96) rfl))) (mvT hZ (hw _ (List.mem_of_getElem? (i := 97) rfl))) (by decide) (backOf (W := 2) (rm_rg l Z a0 hw [] ax ao ast au ac (.ref ab) (.ref ay) per hg ((afF per lo hi ph wd).toInt32) hi (s2B per lo hi ph wd (s1F per lo hi ph wd CC) BB).1 T362.heap n0 (oS ast [(.int lo), (.int hi), (.int per), (.int ph), (.int wd)] :: oA ab (s2B per lo hi ph wd (s1F per lo hi ph wd CC) BB).2 :: F) Z362 (by simp only [s2B_len1, s1F_len, hlC]) ((H.f.2.2.2 hc10_339 hc18_344 hc29_350).2.2.2.2 hc290_365).1 ((H.f.2.2.2 hc10_339 hc18_344 hc29_350).2.2.2.2 hc290_365).2 V362) hZ (hw _ (List.mem_of_getElem? (i := 98) rfl)) (hw _ (List.mem_of_getElem? (i := 58) rfl)) (by decide) (by decide)) q367a q367b q367c (g := (mkF m 302 #[.val (.ref ast), .val (.ref ax), .val (.long 0), .second, .val (.long (offF per lo ph)), .second, .val (.long (nxF per lo ph)), .second, .val (.long (cnF per lo hi ph wd)), .second, .val (.long (afF per lo hi ph wd)), .second] [(.int hi), (.int ((afF per lo hi ph wd).toInt32)), (.ref ax), (.long 0)])) rfl (by rw [hml]; rfl) (Steps.refl _) (argsL := [(.int ((afF per lo hi ph wd).toInt32)), (.int hi)]) (rest := [(.long 0)]) (lenOf pd_7 rfl) rfl (by show 2 * 0 + _ ≤ _; exact Nat.le_of_eq rfl) (hb hby d84m8_302) (fun _ _ => ⟨rfl, e366, Nat.le_of_ble_eq_true rfl, Nat.le_of_ble_eq_true rfl⟩)
                  dsimp only [Pt.U, Pt.locs, Pt.cells, Pt.slots] at X367 l367 y367 z367 st367 hQ367
                  rw [l367, y367, z367] at X367
                  obtain ⟨rfl, N367q, V367⟩ := hQ367
                  have N367 := Fr.app N362 N367q
                  have V367v : OView Z n0 T367.heap (oX ax [(.ref ao), (.ref ast)] :: oC ao [(.int per), (.ref au), (.ref ac), (.ref ab), (.ref ay), (.int hg)] :: oA ac (rgF (s2B per lo hi ph wd (s1F per lo hi ph wd CC) BB).1 ((afF per lo hi ph wd).toInt32) hi) :: oS ast [(.int lo), (.int hi), (.int per), (.int ph), (.int wd)] :: oA ab (s2B per lo hi ph wd (s1F per lo hi ph wd CC) BB).2 :: F) := V367
                  have Z367 : n0 ≤ T367.heap.size := V367v.big 0 rfl
                  refine OGets.after st367 ?_
                  refine OGets.step (fun _ => XS.ladd X367.here hx rfl (hb hby d84m8_307) rfl) ?_
                  show OGets p e below _ (T367.setTop (mkF m 308 #[.val (.ref ast), .val (.ref ax), .val (.long 0), .second, .val (.long (offF per lo ph)), .second, .val (.long (nxF per lo ph)), .second, .val (.long (cnF per lo hi ph wd)), .second, .val (.long (afF per lo hi ph wd)), .second] [(.long 0)]))
                  refine OGets.step (fun _ => XS.lstoreN X367.here hx rfl (hb hby d84m8_308) rfl (l' := #[.val (.ref ast), .val (.ref ax), .val (.long 0), .second, .val (.long (offF per lo ph)), .second, .val (.long (nxF per lo ph)), .second, .val (.long (cnF per lo hi ph wd)), .second, .val (.long (afF per lo hi ph wd)), .second]) rfl) ?_
                  show OGets p e below _ (T367.setTop (mkF m 309 #[.val (.ref ast), .val (.ref ax), .val (.long 0), .second, .val (.long (offF per lo ph)), .second, .val (.long (nxF per lo ph)), .second, .val (.long (cnF per lo hi ph wd)), .second, .val (.long (afF per lo hi ph wd)), .second] []))
                  have kq0 : (s3F per lo hi ph wd (s2B per lo hi ph wd (s1F per lo hi ph wd CC) BB).1) = (rgF (s2B per lo hi ph wd (s1F per lo hi ph wd CC) BB).1 ((afF per lo hi ph wd).toInt32) hi) := if_neg hc290_365
                  exact K363 _ _ X367 N367 Z367 (by rw [kq0]; exact V367v)
              show OGets p e below _ (T361.setTop (mkF m 228 #[.val (.ref ast), .val (.ref ax), .val (.long 0), .second, .val (.long (offF per lo ph)), .second, .val (.long (nxF per lo ph)), .second, .val (.long (cnF per lo hi ph wd)), .second, .val (.long (afF per lo hi ph wd)), .second] []))
              refine OGets.step (fun _ => XS.lload X361.here hx rfl (hb hby d84m8_228) rfl) ?_
              refine OGets.step (fun _ => XS.lconst X361.here hx rfl (hb hby d84m8_230)) ?_
              refine OGets.step (fun _ => XS.lcmp X361.here hx rfl (hb hby d84m8_231) rfl) ?_
              by_cases hc232_368 : (1 : Int64) < (cnF per lo hi ph wd)
              · refine OGets.step (fun _ => XS.ifNo X361.here hx rfl (hb hby d84m8_232) rfl ((if0 _ _).trans (tlt ((lw_gt _ _).mpr hc232_368)).2.2.2)) ?_
                show OGets p e below _ (T361.setTop (mkF m 235 #[.val (.ref ast), .val (.ref ax), .val (.long 0), .second, .val (.long (offF per lo ph)), .second, .val (.long (nxF per lo ph)), .second, .val (.long (cnF per lo hi ph wd)), .second, .val (.long (afF per lo hi ph wd)), .second] []))
                refine OGets.step (fun _ => XS.lloadN X361.here hx rfl (hb hby d84m8_235) rfl) ?_
                refine OGets.step (fun _ => XS.aloadN X361.here hx rfl (hb hby d84m8_236) rfl rfl) ?_
                refine OGets.step (fun _ => XS.lload X361.here hx rfl (hb hby d84m8_237) rfl) ?_
                refine OGets.step (fun _ => XS.l2i X361.here hx rfl (hb hby d84m8_239) rfl) ?_
                refine OGets.step (fun _ => XS.lload X361.here hx rfl (hb hby d84m8_240) rfl) ?_
                refine OGets.step (fun _ => XS.l2i X361.here hx rfl (hb hby d84m8_242) rfl) ?_
                have V369_ : OView Z _ T361.heap (oC ao [(.int per), (.ref au), (.ref ac), (.ref ab), (.ref ay), (.int hg)] :: oA ab BB :: oS ast [(.int lo), (.int hi), (.int per), (.int ph), (.int wd)] :: oX ax [(.ref ao), (.ref ast)] :: oA ac (s1F per lo hi ph wd CC) :: F) := (((V361.bring 3 rfl).bring 4 rfl).bring 3 rfl)
                obtain ⟨cq369, kq369, q369a, q369b, q369c⟩ := isOf hZ rfl (V369_.exa 3 rfl)
                obtain ⟨_, _, ⟨T369, L369, k369, n369⟩, -, X369, ⟨Lc369, hQ369, l369, y369, z369⟩, st369⟩ := X361.interfaceBack hx (xi := (⟨"com/example/pelt/pelt/Strand$Parts", "blocks", "(II)J"⟩ : MethodName)) (y := (⟨"com/example/pelt/pelt/StackCounts$2", "blocks", "(II)J"⟩ : MethodName)) hown (mvT hZ (hw _ (List.mem_of_getElem? (i := 107) rfl))) (mvT hZ (hw _ (List.mem_of_getElem? (i := 108) rfl))) (mvT hZ (hw _ (List.mem_of_getElem? (i := 109) rfl))) (mvT hZ (hw _ (List.mem_of_getElem? (i := 110) rfl))) (mvT hZ (hw _ (List.mem_of_getElem? (i := 111) rfl))) (mvT hZ (hw _ (List.mem_of_getElem? (i := 112) rfl))) (mvT hZ (hw _ (List.mem_of_getElem? (i := 113) rfl))) (mvT hZ (hw _ (List.mem_of_getElem? (i := 97) rfl))) (by decide) (backOf (W := 2) (rm_bk l Z a0 hw [] ax ast ao au ac ab ay per hg lo hi per ph wd ((nxF per lo ph).toInt32) ((cnF per lo hi ph wd).toInt32) BB T361.heap n0 (oA ac (s1F per lo hi ph wd CC) :: F) Z361 (by simp only [hlB]) ((H.f.2.2.2 hc10_339 hc18_344 hc29_350).2.2.2.1 hc232_368) V369_) hZ (hw _ (List.mem_of_getElem? (i := 114) rfl)) (hw _ (List.mem_of_getElem? (i := 58) rfl)) (by decide) (by decide)) q369a q369b q369c (g := (mkF m 243 #[.val (.ref ast), .val (.ref ax), .val (.long 0), .second, .val (.long (offF per lo ph)), .second, .val (.long (nxF per lo ph)), .second, .val (.long (cnF per lo hi ph wd)), .second, .val (.long (afF per lo hi ph wd)), .second] [(.int ((cnF per lo hi ph wd).toInt32)), (.int ((nxF per lo ph).toInt32)), (.ref ax), (.long 0)])) rfl (by rw [hml]; rfl) (Steps.refl _) (argsL := [(.int ((nxF per lo ph).toInt32)), (.int ((cnF per lo hi ph wd).toInt32))]) (rest := [(.long 0)]) (lenOf pd_7 rfl) rfl (by show 2 * 0 + _ ≤ _; exact Nat.le_of_eq rfl) (hb hby d84m8_243) (fun _ _ => ⟨rfl, rfl, Nat.le_of_ble_eq_true rfl, Nat.le_of_ble_eq_true rfl⟩)
                dsimp only [Pt.U, Pt.locs, Pt.cells, Pt.slots] at X369 l369 y369 z369 st369 hQ369
                rw [l369, y369, z369] at X369
                obtain ⟨rfl, N369q, V369⟩ := hQ369
                have N369 := Fr.app N361 N369q
                have V369v : OView Z n0 T369.heap (oC ao [(.int per), (.ref au), (.ref ac), (.ref ab), (.ref ay), (.int hg)] :: oA ab (bkF BB per wd ((nxF per lo ph).toInt32) ((cnF per lo hi ph wd).toInt32)) :: oS ast [(.int lo), (.int hi), (.int per), (.int ph), (.int wd)] :: oX ax [(.ref ao), (.ref ast)] :: oA ac (s1F per lo hi ph wd CC) :: F) := V369
                have Z369 : n0 ≤ T369.heap.size := V369v.big 0 rfl
                refine OGets.after st369 ?_
                refine OGets.step (fun _ => XS.ladd X369.here hx rfl (hb hby d84m8_248) rfl) ?_
                show OGets p e below _ (T369.setTop (mkF m 249 #[.val (.ref ast), .val (.ref ax), .val (.long 0), .second, .val (.long (offF per lo ph)), .second, .val (.long (nxF per lo ph)), .second, .val (.long (cnF per lo hi ph wd)), .second, .val (.long (afF per lo hi ph wd)), .second] [(.long 0)]))
                refine OGets.step (fun _ => XS.lstoreN X369.here hx rfl (hb hby d84m8_249) rfl (l' := #[.val (.ref ast), .val (.ref ax), .val (.long 0), .second, .val (.long (offF per lo ph)), .second, .val (.long (nxF per lo ph)), .second, .val (.long (cnF per lo hi ph wd)), .second, .val (.long (afF per lo hi ph wd)), .second]) rfl) ?_
                refine OGets.step (fun _ => XS.goto X369.here hx rfl (pc0 := 250) (pc' := 282) rfl (hb hby d84m8_250) (by decide) (by decide)) ?_
                have Vp370 : OView Z _ T369.heap (oX ax [(.ref ao), (.ref ast)] :: oC ao [(.int per), (.ref au), (.ref ac), (.ref ab), (.ref ay), (.int hg)] :: oA ac (s1F per lo hi ph wd CC) :: oS ast [(.int lo), (.int hi), (.int per), (.int ph), (.int wd)] :: oA ab (bkF BB per wd ((nxF per lo ph).toInt32) ((cnF per lo hi ph wd).toInt32)) :: F) := ((((V369v.bring 2 rfl).bring 4 rfl).bring 2 rfl).bring 4 rfl)
                show OGets p e below _ (T369.setTop (mkF m 282 #[.val (.ref ast), .val (.ref ax), .val (.long 0), .second, .val (.long (offF per lo ph)), .second, .val (.long (nxF per lo ph)), .second, .val (.long (cnF per lo hi ph wd)), .second, .val (.long (afF per lo hi ph wd)), .second] []))
                have kq0 : (s2B per lo hi ph wd (s1F per lo hi ph wd CC) BB) = ((s1F per lo hi ph wd CC), (bkF BB per wd ((nxF per lo ph).toInt32) ((cnF per lo hi ph wd).toInt32))) := if_pos hc232_368
                exact K362 _ _ X369 N369 Z369 (by rw [kq0]; exact Vp370)
              · refine OGets.step (fun _ => XS.ifYes X361.here hx rfl (pc0 := 232) (pc' := 253) rfl (hb hby d84m8_232) rfl ((if0 _ _).trans (flt (fun q => hc232_368 ((lw_gt _ _).mp q))).2.2.2) (by decide) (by decide)) ?_
                show OGets p e below _ (T361.setTop (mkF m 253 #[.val (.ref ast), .val (.ref ax), .val (.long 0), .second, .val (.long (offF per lo ph)), .second, .val (.long (nxF per lo ph)), .second, .val (.long (cnF per lo hi ph wd)), .second, .val (.long (afF per lo hi ph wd)), .second] []))
                refine OGets.step (fun _ => XS.lload X361.here hx rfl (hb hby d84m8_253) rfl) ?_
                refine OGets.step (fun _ => XS.lconst X361.here hx rfl (hb hby d84m8_255)) ?_
                refine OGets.step (fun _ => XS.lcmp X361.here hx rfl (hb hby d84m8_256) rfl) ?_
                by_cases hc257_371 : (cnF per lo hi ph wd) = (1 : Int64)
                · refine OGets.step (fun _ => XS.ifNo X361.here hx rfl (hb hby d84m8_257) rfl ((if0 _ _).trans (teq ((lw_eq _ _).mpr hc257_371)).2)) ?_
                  show OGets p e below _ (T361.setTop (mkF m 260 #[.val (.ref ast), .val (.ref ax), .val (.long 0), .second, .val (.long (offF per lo ph)), .second, .val (.long (nxF per lo ph)), .second, .val (.long (cnF per lo hi ph wd)), .second, .val (.long (afF per lo hi ph wd)), .second] []))
                  refine OGets.step (fun _ => XS.lloadN X361.here hx rfl (hb hby d84m8_260) rfl) ?_
                  refine OGets.step (fun _ => XS.aloadN X361.here hx rfl (hb hby d84m8_261) rfl rfl) ?_
                  refine OGets.step (fun _ => XS.lload X361.here hx rfl (hb hby d84m8_262) rfl) ?_
                  refine OGets.step (fun _ => XS.l2i X361.here hx rfl (hb hby d84m8_264) rfl) ?_
                  refine OGets.step (fun _ => XS.lload X361.here hx rfl (hb hby d84m8_265) rfl) ?_
                  refine OGets.step (fun _ => XS.l2i X361.here hx rfl (hb hby d84m8_267) rfl) ?_
                  refine OGets.step (fun _ => XS.aloadN X361.here hx rfl (hb hby d84m8_268) rfl rfl) ?_
                  obtain ⟨T372, X372, e372, st372⟩ := getF X361 hx hZ hown (host := "") (Or.inl (hw _ (List.mem_of_getElem? (i := 49) rfl))) Via.refl rfl (V361.fld 3 rfl 4 rfl rfl) (g := (mkF m 269 #[.val (.ref ast), .val (.ref ax), .val (.long 0), .second, .val (.long (offF per lo ph)), .second, .val (.long (nxF per lo ph)), .second, .val (.long (cnF per lo hi ph wd)), .second, .val (.long (afF per lo hi ph wd)), .second] [(.ref ast), (.int ((nxF per lo ph).toInt32)), (.int ((nxF per lo ph).toInt32)), (.ref ax), (.long 0)])) rfl rfl (hb hby d84m8_269)
                  refine OGets.step st372 ?_
                  refine OGets.step (fun _ => XS.iadd X372.here hx rfl (hb hby d84m8_272) rfl) ?_
                  refine OGets.step (fun _ => XS.iconst X372.here hx rfl (hb hby d84m8_273)) ?_
                  refine OGets.step (fun _ => XS.isub X372.here hx rfl (hb hby d84m8_274) rfl) ?_
                  obtain ⟨cq373, kq373, q373a, q373b, q373c⟩ := isOf hZ e372 (V361.exa 0 rfl)
                  obtain ⟨_, _, ⟨T373, L373, k373, n373⟩, -, X373, ⟨Lc373, hQ373, l373, y373, z373⟩, st373⟩ := X372.interfaceBack hx (xi := (⟨"com/example/pelt/pelt/Strand$Parts", "range", "(II)J"⟩ : MethodName)) (y := (⟨"com/example/pelt/pelt/StackCounts$2", "range", "(II)J"⟩ : MethodName)) hown (mvT hZ (hw _ (List.mem_of_getElem? (i := 90) rfl))) (mvT hZ (hw _ (List.mem_of_getElem? (i := 91) rfl))) (mvT hZ (hw _ (List.mem_of_getElem? (i := 92) rfl))) (mvT hZ (hw _ (List.mem_of_getElem? (i := 93) rfl))) (mvT hZ (hw _ (List.mem_of_getElem? (i := 94) rfl))) (mvT hZ (hw _ (List.mem_of_getElem? (i := 95) rfl))) (mvT hZ (hw _ (List.mem_of_getElem? (i := 96) rfl))) (mvT hZ (hw _ (List.mem_of_getElem? (i := 97) rfl))) (by decide) (backOf (W := 2) (rm_rg l Z a0 hw [] ax ao ast au ac (.ref ab) (.ref ay) per hg ((nxF per lo ph).toInt32) ((((nxF per lo ph).toInt32) + wd) - (1 : Int32)) (s1F per lo hi ph wd CC) T361.heap n0 (oS ast [(.int lo), (.int hi), (.int per), (.int ph), (.int wd)] :: oA ab BB :: F) Z361 (by simp only [s1F_len, hlC]) ((H.f.2.2.2 hc10_339 hc18_344 hc29_350).2.2.1 hc257_371).1 ((H.f.2.2.2 hc10_339 hc18_344 hc29_350).2.2.1 hc257_371).2 V361) hZ (hw _ (List.mem_of_getElem? (i := 98) rfl)) (hw _ (List.mem_of_getElem? (i := 58) rfl)) (by decide) (by decide)) q373a q373b q373c (g := (mkF m 275 #[.val (.ref ast), .val (.ref ax), .val (.long 0), .second, .val (.long (offF per lo ph)), .second, .val (.long (nxF per lo ph)), .second, .val (.long (cnF per lo hi ph wd)), .second, .val (.long (afF per lo hi ph wd)), .second] [(.int ((((nxF per lo ph).toInt32) + wd) - (1 : Int32))), (.int ((nxF per lo ph).toInt32)), (.ref ax), (.long 0)])) rfl (by rw [hml]; rfl) (Steps.refl _) (argsL := [(.int ((nxF per lo ph).toInt32)), (.int ((((nxF per lo ph).toInt32) + wd) - (1 : Int32)))]) (rest := [(.long 0)]) (lenOf pd_7 rfl) rfl (by show 2 * 0 + _ ≤ _; exact Nat.le_of_eq rfl) (hb hby d84m8_275) (fun _ _ => ⟨rfl, e372, Nat.le_of_ble_eq_true rfl, Nat.le_of_ble_eq_true rfl⟩)
                  dsimp only [Pt.U, Pt.locs, Pt.cells, Pt.slots] at X373 l373 y373 z373 st373 hQ373
                  rw [l373, y373, z373] at X373
                  obtain ⟨rfl, N373q, V373⟩ := hQ373
                  have N373 := Fr.app N361 N373q
                  have V373v : OView Z n0 T373.heap (oX ax [(.ref ao), (.ref ast)] :: oC ao [(.int per), (.ref au), (.ref ac), (.ref ab), (.ref ay), (.int hg)] :: oA ac (rgF (s1F per lo hi ph wd CC) ((nxF per lo ph).toInt32) ((((nxF per lo ph).toInt32) + wd) - (1 : Int32))) :: oS ast [(.int lo), (.int hi), (.int per), (.int ph), (.int wd)] :: oA ab BB :: F) := V373
                  have Z373 : n0 ≤ T373.heap.size := V373v.big 0 rfl
                  refine OGets.after st373 ?_
                  refine OGets.step (fun _ => XS.ladd X373.here hx rfl (hb hby d84m8_280) rfl) ?_
                  show OGets p e below _ (T373.setTop (mkF m 281 #[.val (.ref ast), .val (.ref ax), .val (.long 0), .second, .val (.long (offF per lo ph)), .second, .val (.long (nxF per lo ph)), .second, .val (.long (cnF per lo hi ph wd)), .second, .val (.long (afF per lo hi ph wd)), .second] [(.long 0)]))
                  refine OGets.step (fun _ => XS.lstoreN X373.here hx rfl (hb hby d84m8_281) rfl (l' := #[.val (.ref ast), .val (.ref ax), .val (.long 0), .second, .val (.long (offF per lo ph)), .second, .val (.long (nxF per lo ph)), .second, .val (.long (cnF per lo hi ph wd)), .second, .val (.long (afF per lo hi ph wd)), .second]) rfl) ?_
                  show OGets p e below _ (T373.setTop (mkF m 282 #[.val (.ref ast), .val (.ref ax), .val (.long 0), .second, .val (.long (offF per lo ph)), .second, .val (.long (nxF per lo ph)), .second, .val (.long (cnF per lo hi ph wd)), .second, .val (.long (afF per lo hi ph wd)), .second] []))
                  have kq0 : (s2B per lo hi ph wd (s1F per lo hi ph wd CC) BB) = ((rgF (s1F per lo hi ph wd CC) ((nxF per lo ph).toInt32) ((((nxF per lo ph).toInt32) + wd) - (1 : Int32))), BB) := (if_neg hc232_368).trans (congrArg (fun z => (z, BB)) (if_pos hc257_371))
                  exact K362 _ _ X373 N373 Z373 (by rw [kq0]; exact V373v)
                · refine OGets.step (fun _ => XS.ifYes X361.here hx rfl (pc0 := 257) (pc' := 282) rfl (hb hby d84m8_257) rfl ((if0 _ _).trans (feq (fun q => hc257_371 ((lw_eq _ _).mp q))).2) (by decide) (by decide)) ?_
                  show OGets p e below _ (T361.setTop (mkF m 282 #[.val (.ref ast), .val (.ref ax), .val (.long 0), .second, .val (.long (offF per lo ph)), .second, .val (.long (nxF per lo ph)), .second, .val (.long (cnF per lo hi ph wd)), .second, .val (.long (afF per lo hi ph wd)), .second] []))
                  have kq0 : (s2B per lo hi ph wd (s1F per lo hi ph wd CC) BB) = ((s1F per lo hi ph wd CC), BB) := (if_neg hc232_368).trans (congrArg (fun z => (z, BB)) (if_neg hc257_371))
                  exact K362 _ _ X361 N361 Z361 (by rw [kq0]; exact V361)
            refine OGets.step (fun _ => XS.lload X360.here hx rfl (hb hby d84m8_172) rfl) ?_
            refine OGets.step (fun _ => XS.lconst X360.here hx rfl (hb hby d84m8_174)) ?_
            refine OGets.step (fun _ => XS.lcmp X360.here hx rfl (hb hby d84m8_175) rfl) ?_
            by_cases hc176_374 : (0 : Int64) < (offF per lo ph)
            · refine OGets.step (fun _ => XS.ifNo X360.here hx rfl (hb hby d84m8_176) rfl ((if0 _ _).trans (tlt ((lw_gt _ _).mpr hc176_374)).2.2.2)) ?_
              show OGets p e below _ (T360.setTop (mkF m 179 #[.val (.ref ast), .val (.ref ax), .val (.long 0), .second, .val (.long (offF per lo ph)), .second, .val (.long (nxF per lo ph)), .second, .val (.long (cnF per lo hi ph wd)), .second, .val (.long (afF per lo hi ph wd)), .second] []))
              refine OGets.step (fun _ => XS.lload X360.here hx rfl (hb hby d84m8_179) rfl) ?_
              refine OGets.step (fun _ => XS.aloadN X360.here hx rfl (hb hby d84m8_181) rfl rfl) ?_
              obtain ⟨T375, X375, e375, st375⟩ := getF X360 hx hZ hown (host := "") (Or.inl (hw _ (List.mem_of_getElem? (i := 49) rfl))) Via.refl e360 (V359.fld 3 rfl 4 rfl rfl) (g := (mkF m 182 #[.val (.ref ast), .val (.ref ax), .val (.long 0), .second, .val (.long (offF per lo ph)), .second, .val (.long (nxF per lo ph)), .second, .val (.long (cnF per lo hi ph wd)), .second, .val (.long (afF per lo hi ph wd)), .second] [(.ref ast), (.long (offF per lo ph))])) rfl rfl (hb hby d84m8_182)
              refine OGets.step st375 ?_
              refine OGets.step (fun _ => XS.i2l X375.here hx rfl (hb hby d84m8_185) rfl) ?_
              refine OGets.step (fun _ => XS.lcmp X375.here hx rfl (hb hby d84m8_186) rfl) ?_
              by_cases hc187_376 : (offF per lo ph) < (wd.toInt64)
              · refine OGets.step (fun _ => XS.ifNo X375.here hx rfl (hb hby d84m8_187) rfl ((if0 _ _).trans (tlt ((lw_lt _ _).mpr hc187_376)).2.1)) ?_
                show OGets p e below _ (T375.setTop (mkF m 190 #[.val (.ref ast), .val (.ref ax), .val (.long 0), .second, .val (.long (offF per lo ph)), .second, .val (.long (nxF per lo ph)), .second, .val (.long (cnF per lo hi ph wd)), .second, .val (.long (afF per lo hi ph wd)), .second] []))
                refine OGets.step (fun _ => XS.lloadN X375.here hx rfl (hb hby d84m8_190) rfl) ?_
                refine OGets.step (fun _ => XS.aloadN X375.here hx rfl (hb hby d84m8_191) rfl rfl) ?_
                refine OGets.step (fun _ => XS.aloadN X375.here hx rfl (hb hby d84m8_192) rfl rfl) ?_
                obtain ⟨T377, X377, e377, st377⟩ := getF X375 hx hZ hown (host := "") (Or.inl (hw _ (List.mem_of_getElem? (i := 41) rfl))) Via.refl e375 (V359.fld 3 rfl 0 rfl rfl) (g := (mkF m 193 #[.val (.ref ast), .val (.ref ax), .val (.long 0), .second, .val (.long (offF per lo ph)), .second, .val (.long (nxF per lo ph)), .second, .val (.long (cnF per lo hi ph wd)), .second, .val (.long (afF per lo hi ph wd)), .second] [(.ref ast), (.ref ax), (.long 0)])) rfl rfl (hb hby d84m8_193)
                refine OGets.step st377 ?_
                refine OGets.step (fun _ => XS.aloadN X377.here hx rfl (hb hby d84m8_196) rfl rfl) ?_
                obtain ⟨T378, X378, e378, st378⟩ := getF X377 hx hZ hown (host := "") (Or.inl (hw _ (List.mem_of_getElem? (i := 41) rfl))) Via.refl e377 (V359.fld 3 rfl 0 rfl rfl) (g := (mkF m 197 #[.val (.ref ast), .val (.ref ax), .val (.long 0), .second, .val (.long (offF per lo ph)), .second, .val (.long (nxF per lo ph)), .second, .val (.long (cnF per lo hi ph wd)), .second, .val (.long (afF per lo hi ph wd)), .second] [(.ref ast), (.int lo), (.ref ax), (.long 0)])) rfl rfl (hb hby d84m8_197)
                refine OGets.step st378 ?_
                refine OGets.step (fun _ => XS.i2l X378.here hx rfl (hb hby d84m8_200) rfl) ?_
                refine OGets.step (fun _ => XS.lload X378.here hx rfl (hb hby d84m8_201) rfl) ?_
                refine OGets.step (fun _ => XS.lsub X378.here hx rfl (hb hby d84m8_203) rfl) ?_
                refine OGets.step (fun _ => XS.aloadN X378.here hx rfl (hb hby d84m8_204) rfl rfl) ?_
                obtain ⟨T379, X379, e379, st379⟩ := getF X378 hx hZ hown (host := "") (Or.inl (hw _ (List.mem_of_getElem? (i := 49) rfl))) Via.refl e378 (V359.fld 3 rfl 4 rfl rfl) (g := (mkF m 205 #[.val (.ref ast), .val (.ref ax), .val (.long 0), .second, .val (.long (offF per lo ph)), .second, .val (.long (nxF per lo ph)), .second, .val (.long (cnF per lo hi ph wd)), .second, .val (.long (afF per lo hi ph wd)), .second] [(.ref ast), (.long ((lo.toInt64) - (offF per lo ph))), (.int lo), (.ref ax), (.long 0)])) rfl rfl (hb hby d84m8_205)
                refine OGets.step st379 ?_
                refine OGets.step (fun _ => XS.i2l X379.here hx rfl (hb hby d84m8_208) rfl) ?_
                refine OGets.step (fun _ => XS.ladd X379.here hx rfl (hb hby d84m8_209) rfl) ?_
                refine OGets.step (fun _ => XS.lconst X379.here hx rfl (hb hby d84m8_210)) ?_
                refine OGets.step (fun _ => XS.lsub X379.here hx rfl (hb hby d84m8_211) rfl) ?_
                refine OGets.step (fun _ => XS.aloadN X379.here hx rfl (hb hby d84m8_212) rfl rfl) ?_
                obtain ⟨T380, X380, e380, st380⟩ := getF X379 hx hZ hown (host := "") (Or.inl (hw _ (List.mem_of_getElem? (i := 43) rfl))) Via.refl e379 (V359.fld 3 rfl 1 rfl rfl) (g := (mkF m 213 #[.val (.ref ast), .val (.ref ax), .val (.long 0), .second, .val (.long (offF per lo ph)), .second, .val (.long (nxF per lo ph)), .second, .val (.long (cnF per lo hi ph wd)), .second, .val (.long (afF per lo hi ph wd)), .second] [(.ref ast), (.long ((((lo.toInt64) - (offF per lo ph)) + (wd.toInt64)) - (1 : Int64))), (.int lo), (.ref ax), (.long 0)])) rfl rfl (hb hby d84m8_213)
                refine OGets.step st380 ?_
                refine OGets.step (fun _ => XS.i2l X380.here hx rfl (hb hby d84m8_216) rfl) ?_
                obtain ⟨_, _, ⟨T381, L381, k381, n381⟩, -, X381, ⟨Lc381, hQ381, l381, y381, z381⟩, st381⟩ := Jvm.LawKit.callS X380 hx (y := (⟨"java/lang/Math", "min", "(JJ)J"⟩ : MethodName)) hown (mvT hZ (hw _ (List.mem_of_getElem? (i := 104) rfl))) (mvT hZ (hw _ (List.mem_of_getElem? (i := 105) rfl))) (mvT hZ (hw _ (List.mem_of_getElem? (i := 88) rfl))) (mvT hZ (hw _ (List.mem_of_getElem? (i := 106) rfl))) (by decide) (backOf (W := 4) (rm_mn l Z a0 hw [] ((((lo.toInt64) - (offF per lo ph)) + (wd.toInt64)) - (1 : Int64)) (hi.toInt64) T359.heap n0  Z359 ) hZ (hw _ (List.mem_of_getElem? (i := 106) rfl)) (hw _ (List.mem_of_getElem? (i := 88) rfl)) (by decide) (by decide)) (g := (mkF m 217 #[.val (.ref ast), .val (.ref ax), .val (.long 0), .second, .val (.long (offF per lo ph)), .second, .val (.long (nxF per lo ph)), .second, .val (.long (cnF per lo hi ph wd)), .second, .val (.long (afF per lo hi ph wd)), .second] [(.long (hi.toInt64)), (.long ((((lo.toInt64) - (offF per lo ph)) + (wd.toInt64)) - (1 : Int64))), (.int lo), (.ref ax), (.long 0)])) rfl (by rw [hml]; rfl) (argsL := [(.long ((((lo.toInt64) - (offF per lo ph)) + (wd.toInt64)) - (1 : Int64))), (.long (hi.toInt64))]) (rest := [(.int lo), (.ref ax), (.long 0)]) (lenOf pd_9 rfl) rfl (by show 2 * 0 + _ ≤ _; exact Nat.le_of_eq rfl) (hb hby d84m8_217) (fun _ _ => ⟨rfl, e380, Nat.le_of_ble_eq_true rfl, Nat.le_of_ble_eq_true rfl⟩)
                dsimp only [Pt.U, Pt.locs, Pt.cells, Pt.slots] at X381 l381 y381 z381 st381 hQ381
                rw [l381, y381, z381] at X381
                obtain ⟨rfl, rfl, e381⟩ := hQ381
                have N381 := Fr.app N359 (Fr.nil n0)
                refine OGets.step st381 ?_
                refine OGets.step (fun _ => XS.l2i X381.here hx rfl (hb hby d84m8_220) rfl) ?_
                show OGets p e below _ (T381.setTop (mkF m 221 #[.val (.ref ast), .val (.ref ax), .val (.long 0), .second, .val (.long (offF per lo ph)), .second, .val (.long (nxF per lo ph)), .second, .val (.long (cnF per lo hi ph wd)), .second, .val (.long (afF per lo hi ph wd)), .second] [(.int (m1F per lo hi ph wd)), (.int lo), (.ref ax), (.long 0)]))
                obtain ⟨cq382, kq382, q382a, q382b, q382c⟩ := isOf hZ e381 (V359.exa 0 rfl)
                obtain ⟨_, _, ⟨T382, L382, k382, n382⟩, -, X382, ⟨Lc382, hQ382, l382, y382, z382⟩, st382⟩ := X381.interfaceBack hx (xi := (⟨"com/example/pelt/pelt/Strand$Parts", "range", "(II)J"⟩ : MethodName)) (y := (⟨"com/example/pelt/pelt/StackCounts$2", "range", "(II)J"⟩ : MethodName)) hown (mvT hZ (hw _ (List.mem_of_getElem? (i := 90) rfl))) (mvT hZ (hw _ (List.mem_of_getElem? (i := 91) rfl))) (mvT hZ (hw _ (List.mem_of_getElem? (i := 92) rfl))) (mvT hZ (hw _ (List.mem_of_getElem? (i := 93) rfl))) (mvT hZ (hw _ (List.mem_of_getElem? (i := 94) rfl))) (mvT hZ (hw _ (List.mem_of_getElem? (i := 95) rfl))) (mvT hZ (hw _ (List.mem_of_getElem? (i := 96) rfl))) (mvT hZ (hw _ (List.mem_of_getElem? (i := 97) rfl))) (by decide) (backOf (W := 2) (rm_rg l Z a0 hw [] ax ao ast au ac (.ref ab) (.ref ay) per hg lo (m1F per lo hi ph wd) CC T359.heap n0 (oS ast [(.int lo), (.int hi), (.int per), (.int ph), (.int wd)] :: oA ab BB :: F) Z359 (by simp only [hlC]) ((H.f.2.2.2 hc10_339 hc18_344 hc29_350).1 hc176_374 hc187_376).1 ((H.f.2.2.2 hc10_339 hc18_344 hc29_350).1 hc176_374 hc187_376).2 V359) hZ (hw _ (List.mem_of_getElem? (i := 98) rfl)) (hw _ (List.mem_of_getElem? (i := 58) rfl)) (by decide) (by decide)) q382a q382b q382c (g := (mkF m 221 #[.val (.ref ast), .val (.ref ax), .val (.long 0), .second, .val (.long (offF per lo ph)), .second, .val (.long (nxF per lo ph)), .second, .val (.long (cnF per lo hi ph wd)), .second, .val (.long (afF per lo hi ph wd)), .second] [(.int (m1F per lo hi ph wd)), (.int lo), (.ref ax), (.long 0)])) rfl (by rw [hml]; rfl) (Steps.refl _) (argsL := [(.int lo), (.int (m1F per lo hi ph wd))]) (rest := [(.long 0)]) (lenOf pd_7 rfl) rfl (by show 2 * 0 + _ ≤ _; exact Nat.le_of_eq rfl) (hb hby d84m8_221) (fun _ _ => ⟨rfl, e381, Nat.le_of_ble_eq_true rfl, Nat.le_of_ble_eq_true rfl⟩)
                dsimp only [Pt.U, Pt.locs, Pt.cells, Pt.slots] at X382 l382 y382 z382 st382 hQ382
                rw [l382, y382, z382] at X382
                obtain ⟨rfl, N382q, V382⟩ := hQ382
                have N382 := Fr.app N381 N382q
                have V382v : OView Z n0 T382.heap (oX ax [(.ref ao), (.ref ast)] :: oC ao [(.int per), (.ref au), (.ref ac), (.ref ab), (.ref ay), (.int hg)] :: oA ac (rgF CC lo (m1F per lo hi ph wd)) :: oS ast [(.int lo), (.int hi), (.int per), (.int ph), (.int wd)] :: oA ab BB :: F) := V382
                have Z382 : n0 ≤ T382.heap.size := V382v.big 0 rfl
                refine OGets.after st382 ?_
                refine OGets.step (fun _ => XS.ladd X382.here hx rfl (hb hby d84m8_226) rfl) ?_
                show OGets p e below _ (T382.setTop (mkF m 227 #[.val (.ref ast), .val (.ref ax), .val (.long 0), .second, .val (.long (offF per lo ph)), .second, .val (.long (nxF per lo ph)), .second, .val (.long (cnF per lo hi ph wd)), .second, .val (.long (afF per lo hi ph wd)), .second] [(.long 0)]))
                refine OGets.step (fun _ => XS.lstoreN X382.here hx rfl (hb hby d84m8_227) rfl (l' := #[.val (.ref ast), .val (.ref ax), .val (.long 0), .second, .val (.long (offF per lo ph)), .second, .val (.long (nxF per lo ph)), .second, .val (.long (cnF per lo hi ph wd)), .second, .val (.long (afF per lo hi ph wd)), .second]) rfl) ?_
                show OGets p e below _ (T382.setTop (mkF m 228 #[.val (.ref ast), .val (.ref ax), .val (.long 0), .second, .val (.long (offF per lo ph)), .second, .val (.long (nxF per lo ph)), .second, .val (.long (cnF per lo hi ph wd)), .second, .val (.long (afF per lo hi ph wd)), .second] []))
                have kq0 : (s1F per lo hi ph wd CC) = (rgF CC lo (m1F per lo hi ph wd)) := (if_pos hc176_374).trans (if_pos hc187_376)
                exact K361 _ _ X382 N382 Z382 (by rw [kq0]; exact V382v)
              · refine OGets.step (fun _ => XS.ifYes X375.here hx rfl (pc0 := 187) (pc' := 228) rfl (hb hby d84m8_187) rfl ((if0 _ _).trans (flt (fun q => hc187_376 ((lw_lt _ _).mp q))).2.1) (by decide) (by decide)) ?_
                show OGets p e below _ (T375.setTop (mkF m 228 #[.val (.ref ast), .val (.ref ax), .val (.long 0), .second, .val (.long (offF per lo ph)), .second, .val (.long (nxF per lo ph)), .second, .val (.long (cnF per lo hi ph wd)), .second, .val (.long (afF per lo hi ph wd)), .second] []))
                have kq0 : (s1F per lo hi ph wd CC) = CC := (if_pos hc176_374).trans (if_neg hc187_376)
                exact K361 _ _ X375 N359 (by rw [e375]; exact Z359) (by rw [e375]; rw [kq0]; exact V359)
            · refine OGets.step (fun _ => XS.ifYes X360.here hx rfl (pc0 := 176) (pc' := 228) rfl (hb hby d84m8_176) rfl ((if0 _ _).trans (flt (fun q => hc176_374 ((lw_gt _ _).mp q))).2.2.2) (by decide) (by decide)) ?_
              show OGets p e below _ (T360.setTop (mkF m 228 #[.val (.ref ast), .val (.ref ax), .val (.long 0), .second, .val (.long (offF per lo ph)), .second, .val (.long (nxF per lo ph)), .second, .val (.long (cnF per lo hi ph wd)), .second, .val (.long (afF per lo hi ph wd)), .second] []))
              have kq0 : (s1F per lo hi ph wd CC) = CC := if_neg hc176_374
              exact K361 _ _ X360 N359 (by rw [e360]; exact Z359) (by rw [e360]; rw [kq0]; exact V359)
          refine OGets.step (fun _ => XS.lload X358.here hx rfl (hb hby d84m8_111) rfl) ?_
          refine OGets.step (fun _ => XS.aloadN X358.here hx rfl (hb hby d84m8_113) rfl rfl) ?_
          obtain ⟨T383, X383, e383, st383⟩ := getF X358 hx hZ hown (host := "") (Or.inl (hw _ (List.mem_of_getElem? (i := 49) rfl))) Via.refl rfl (V358.fld 3 rfl 4 rfl rfl) (g := (mkF m 114 #[.val (.ref ast), .val (.ref ax), .val (.long 0), .second, .val (.long (offF per lo ph)), .second, .val (.long (nxF per lo ph)), .second, .unset, .unset, .unset, .unset] [(.ref ast), (.long (nxF per lo ph))])) rfl rfl (hb hby d84m8_114)
          refine OGets.step st383 ?_
          refine OGets.step (fun _ => XS.i2l X383.here hx rfl (hb hby d84m8_117) rfl) ?_
          refine OGets.step (fun _ => XS.ladd X383.here hx rfl (hb hby d84m8_118) rfl) ?_
          refine OGets.step (fun _ => XS.lconst X383.here hx rfl (hb hby d84m8_119)) ?_
          refine OGets.step (fun _ => XS.lsub X383.here hx rfl (hb hby d84m8_120) rfl) ?_
          refine OGets.step (fun _ => XS.aloadN X383.here hx rfl (hb hby d84m8_121) rfl rfl) ?_
          obtain ⟨T384, X384, e384, st384⟩ := getF X383 hx hZ hown (host := "") (Or.inl (hw _ (List.mem_of_getElem? (i := 43) rfl))) Via.refl e383 (V358.fld 3 rfl 1 rfl rfl) (g := (mkF m 122 #[.val (.ref ast), .val (.ref ax), .val (.long 0), .second, .val (.long (offF per lo ph)), .second, .val (.long (nxF per lo ph)), .second, .unset, .unset, .unset, .unset] [(.ref ast), (.long (((nxF per lo ph) + (wd.toInt64)) - (1 : Int64)))])) rfl rfl (hb hby d84m8_122)
          refine OGets.step st384 ?_
          refine OGets.step (fun _ => XS.i2l X384.here hx rfl (hb hby d84m8_125) rfl) ?_
          refine OGets.step (fun _ => XS.lcmp X384.here hx rfl (hb hby d84m8_126) rfl) ?_
          by_cases hc127_385 : (hi.toInt64) < (((nxF per lo ph) + (wd.toInt64)) - (1 : Int64))
          · refine OGets.step (fun _ => XS.ifYes X384.here hx rfl (pc0 := 127) (pc' := 156) rfl (hb hby d84m8_127) rfl ((if0 _ _).trans (tlt ((lw_gt _ _).mpr hc127_385)).2.2.1) (by decide) (by decide)) ?_
            show OGets p e below _ (T384.setTop (mkF m 156 #[.val (.ref ast), .val (.ref ax), .val (.long 0), .second, .val (.long (offF per lo ph)), .second, .val (.long (nxF per lo ph)), .second, .unset, .unset, .unset, .unset] []))
            refine OGets.step (fun _ => XS.lconst X384.here hx rfl (hb hby d84m8_156)) ?_
            show OGets p e below _ (T384.setTop (mkF m 157 #[.val (.ref ast), .val (.ref ax), .val (.long 0), .second, .val (.long (offF per lo ph)), .second, .val (.long (nxF per lo ph)), .second, .unset, .unset, .unset, .unset] [(.long 0)]))
            have ke : (cnF per lo hi ph wd) = (0 : Int64) := if_pos hc127_385
            have kr := K359 _ _ X384 N358 (by rw [e384]; exact Z358) (by rw [e384]; exact V358)
            rw [ke] at kr
            exact kr
          · refine OGets.step (fun _ => XS.ifNo X384.here hx rfl (hb hby d84m8_127) rfl ((if0 _ _).trans (flt (fun q => hc127_385 ((lw_gt _ _).mp q))).2.2.1)) ?_
            show OGets p e below _ (T384.setTop (mkF m 130 #[.val (.ref ast), .val (.ref ax), .val (.long 0), .second, .val (.long (offF per lo ph)), .second, .val (.long (nxF per lo ph)), .second, .unset, .unset, .unset, .unset] []))
            refine OGets.step (fun _ => XS.aloadN X384.here hx rfl (hb hby d84m8_130) rfl rfl) ?_
            obtain ⟨T386, X386, e386, st386⟩ := getF X384 hx hZ hown (host := "") (Or.inl (hw _ (List.mem_of_getElem? (i := 43) rfl))) Via.refl e384 (V358.fld 3 rfl 1 rfl rfl) (g := (mkF m 131 #[.val (.ref ast), .val (.ref ax), .val (.long 0), .second, .val (.long (offF per lo ph)), .second, .val (.long (nxF per lo ph)), .second, .unset, .unset, .unset, .unset] [(.ref ast)])) rfl rfl (hb hby d84m8_131)
            refine OGets.step st386 ?_
            refine OGets.step (fun _ => XS.aloadN X386.here hx rfl (hb hby d84m8_134) rfl rfl) ?_
            obtain ⟨T387, X387, e387, st387⟩ := getF X386 hx hZ hown (host := "") (Or.inl (hw _ (List.mem_of_getElem? (i := 49) rfl))) Via.refl e386 (V358.fld 3 rfl 4 rfl rfl) (g := (mkF m 135 #[.val (.ref ast), .val (.ref ax), .val (.long 0), .second, .val (.long (offF per lo ph)), .second, .val (.long (nxF per lo ph)), .second, .unset, .unset, .unset, .unset] [(.ref ast), (.int hi)])) rfl rfl (hb hby d84m8_135)
            refine OGets.step st387 ?_
            refine OGets.step (fun _ => XS.isub X387.here hx rfl (hb hby d84m8_138) rfl) ?_
            refine OGets.step (fun _ => XS.iconst X387.here hx rfl (hb hby d84m8_139)) ?_
            refine OGets.step (fun _ => XS.iadd X387.here hx rfl (hb hby d84m8_140) rfl) ?_
            refine OGets.step (fun _ => XS.i2l X387.here hx rfl (hb hby d84m8_141) rfl) ?_
            refine OGets.step (fun _ => XS.lload X387.here hx rfl (hb hby d84m8_142) rfl) ?_
            refine OGets.step (fun _ => XS.lsub X387.here hx rfl (hb hby d84m8_144) rfl) ?_
            refine OGets.step (fun _ => XS.aloadN X387.here hx rfl (hb hby d84m8_145) rfl rfl) ?_
            obtain ⟨T388, X388, e388, st388⟩ := getF X387 hx hZ hown (host := "") (Or.inl (hw _ (List.mem_of_getElem? (i := 45) rfl))) Via.refl e387 (V358.fld 3 rfl 2 rfl rfl) (g := (mkF m 146 #[.val (.ref ast), .val (.ref ax), .val (.long 0), .second, .val (.long (offF per lo ph)), .second, .val (.long (nxF per lo ph)), .second, .unset, .unset, .unset, .unset] [(.ref ast), (.long ((((hi - wd) + (1 : Int32)).toInt64) - (nxF per lo ph)))])) rfl rfl (hb hby d84m8_146)
            refine OGets.step st388 ?_
            refine OGets.step (fun _ => XS.i2l X388.here hx rfl (hb hby d84m8_149) rfl) ?_
            refine OGets.step (fun _ => XS.ldiv X388.here hx rfl (hb hby d84m8_150) rfl H.f.2.2.1) ?_
            refine OGets.step (fun _ => XS.lconst X388.here hx rfl (hb hby d84m8_151)) ?_
            refine OGets.step (fun _ => XS.ladd X388.here hx rfl (hb hby d84m8_152) rfl) ?_
            refine OGets.step (fun _ => XS.goto X388.here hx rfl (pc0 := 153) (pc' := 157) rfl (hb hby d84m8_153) (by decide) (by decide)) ?_
            show OGets p e below _ (T388.setTop (mkF m 157 #[.val (.ref ast), .val (.ref ax), .val (.long 0), .second, .val (.long (offF per lo ph)), .second, .val (.long (nxF per lo ph)), .second, .unset, .unset, .unset, .unset] [(.long ((((((hi - wd) + (1 : Int32)).toInt64) - (nxF per lo ph)) / (per.toInt64)) + (1 : Int64)))]))
            have ke : (cnF per lo hi ph wd) = ((((((hi - wd) + (1 : Int32)).toInt64) - (nxF per lo ph)) / (per.toInt64)) + (1 : Int64)) := if_neg hc127_385
            have kr := K359 _ _ X388 N358 (by rw [e388]; exact Z358) (by rw [e388]; exact V358)
            rw [ke] at kr
            exact kr
        refine OGets.step (fun _ => XS.lload X357.here hx rfl (hb hby d84m8_80) rfl) ?_
        refine OGets.step (fun _ => XS.lconst X357.here hx rfl (hb hby d84m8_82)) ?_
        refine OGets.step (fun _ => XS.lcmp X357.here hx rfl (hb hby d84m8_83) rfl) ?_
        by_cases hc84_389 : (offF per lo ph) = (0 : Int64)
        · refine OGets.step (fun _ => XS.ifNo X357.here hx rfl (hb hby d84m8_84) rfl ((if0 _ _).trans (teq ((lw_eq _ _).mpr hc84_389)).2)) ?_
          show OGets p e below _ (T357.setTop (mkF m 87 #[.val (.ref ast), .val (.ref ax), .val (.long 0), .second, .val (.long (offF per lo ph)), .second, .unset, .unset, .unset, .unset, .unset, .unset] []))
          refine OGets.step (fun _ => XS.aloadN X357.here hx rfl (hb hby d84m8_87) rfl rfl) ?_
          obtain ⟨T390, X390, e390, st390⟩ := getF X357 hx hZ hown (host := "") (Or.inl (hw _ (List.mem_of_getElem? (i := 41) rfl))) Via.refl e357 (V0.fld 3 rfl 0 rfl rfl) (g := (mkF m 88 #[.val (.ref ast), .val (.ref ax), .val (.long 0), .second, .val (.long (offF per lo ph)), .second, .unset, .unset, .unset, .unset, .unset, .unset] [(.ref ast)])) rfl rfl (hb hby d84m8_88)
          refine OGets.step st390 ?_
          refine OGets.step (fun _ => XS.i2l X390.here hx rfl (hb hby d84m8_91) rfl) ?_
          refine OGets.step (fun _ => XS.goto X390.here hx rfl (pc0 := 92) (pc' := 109) rfl (hb hby d84m8_92) (by decide) (by decide)) ?_
          show OGets p e below _ (T390.setTop (mkF m 109 #[.val (.ref ast), .val (.ref ax), .val (.long 0), .second, .val (.long (offF per lo ph)), .second, .unset, .unset, .unset, .unset, .unset, .unset] [(.long (lo.toInt64))]))
          have ke : (nxF per lo ph) = (lo.toInt64) := if_pos hc84_389
          have kr := K358 _ _ X390 N357 (by rw [e390]; exact Z0) (by rw [e390]; exact V0)
          rw [ke] at kr
          exact kr
        · refine OGets.step (fun _ => XS.ifYes X357.here hx rfl (pc0 := 84) (pc' := 95) rfl (hb hby d84m8_84) rfl ((if0 _ _).trans (feq (fun q => hc84_389 ((lw_eq _ _).mp q))).2) (by decide) (by decide)) ?_
          show OGets p e below _ (T357.setTop (mkF m 95 #[.val (.ref ast), .val (.ref ax), .val (.long 0), .second, .val (.long (offF per lo ph)), .second, .unset, .unset, .unset, .unset, .unset, .unset] []))
          refine OGets.step (fun _ => XS.aloadN X357.here hx rfl (hb hby d84m8_95) rfl rfl) ?_
          obtain ⟨T391, X391, e391, st391⟩ := getF X357 hx hZ hown (host := "") (Or.inl (hw _ (List.mem_of_getElem? (i := 41) rfl))) Via.refl e357 (V0.fld 3 rfl 0 rfl rfl) (g := (mkF m 96 #[.val (.ref ast), .val (.ref ax), .val (.long 0), .second, .val (.long (offF per lo ph)), .second, .unset, .unset, .unset, .unset, .unset, .unset] [(.ref ast)])) rfl rfl (hb hby d84m8_96)
          refine OGets.step st391 ?_
          refine OGets.step (fun _ => XS.i2l X391.here hx rfl (hb hby d84m8_99) rfl) ?_
          refine OGets.step (fun _ => XS.lload X391.here hx rfl (hb hby d84m8_100) rfl) ?_
          refine OGets.step (fun _ => XS.lsub X391.here hx rfl (hb hby d84m8_102) rfl) ?_
          refine OGets.step (fun _ => XS.aloadN X391.here hx rfl (hb hby d84m8_103) rfl rfl) ?_
          obtain ⟨T392, X392, e392, st392⟩ := getF X391 hx hZ hown (host := "") (Or.inl (hw _ (List.mem_of_getElem? (i := 45) rfl))) Via.refl e391 (V0.fld 3 rfl 2 rfl rfl) (g := (mkF m 104 #[.val (.ref ast), .val (.ref ax), .val (.long 0), .second, .val (.long (offF per lo ph)), .second, .unset, .unset, .unset, .unset, .unset, .unset] [(.ref ast), (.long ((lo.toInt64) - (offF per lo ph)))])) rfl rfl (hb hby d84m8_104)
          refine OGets.step st392 ?_
          refine OGets.step (fun _ => XS.i2l X392.here hx rfl (hb hby d84m8_107) rfl) ?_
          refine OGets.step (fun _ => XS.ladd X392.here hx rfl (hb hby d84m8_108) rfl) ?_
          show OGets p e below _ (T392.setTop (mkF m 109 #[.val (.ref ast), .val (.ref ax), .val (.long 0), .second, .val (.long (offF per lo ph)), .second, .unset, .unset, .unset, .unset, .unset, .unset] [(.long (((lo.toInt64) - (offF per lo ph)) + (per.toInt64)))]))
          have ke : (nxF per lo ph) = (((lo.toInt64) - (offF per lo ph)) + (per.toInt64)) := if_neg hc84_389
          have kr := K358 _ _ X392 N357 (by rw [e392]; exact Z0) (by rw [e392]; exact V0)
          rw [ke] at kr
          exact kr
      · refine OGets.step (fun _ => XS.icmpNo X349.here hx rfl (hb hby d84m8_29) rfl (flt hc29_350).1) ?_
        show OGets p e below _ (T349.setTop (mkF m 32 #[.val (.ref ast), .val (.ref ax), .val (.long 0), .second, .unset, .unset, .unset, .unset, .unset, .unset, .unset, .unset] []))
        refine OGets.step (fun _ => XS.aloadN X349.here hx rfl (hb hby d84m8_32) rfl rfl) ?_
        refine OGets.step (fun _ => XS.aloadN X349.here hx rfl (hb hby d84m8_33) rfl rfl) ?_
        obtain ⟨T393, X393, e393, st393⟩ := getF X349 hx hZ hown (host := "") (Or.inl (hw _ (List.mem_of_getElem? (i := 41) rfl))) Via.refl e349 (V0.fld 3 rfl 0 rfl rfl) (g := (mkF m 34 #[.val (.ref ast), .val (.ref ax), .val (.long 0), .second, .unset, .unset, .unset, .unset, .unset, .unset, .unset, .unset] [(.ref ast), (.ref ax)])) rfl rfl (hb hby d84m8_34)
        refine OGets.step st393 ?_
        refine OGets.step (fun _ => XS.aloadN X393.here hx rfl (hb hby d84m8_37) rfl rfl) ?_
        obtain ⟨T394, X394, e394, st394⟩ := getF X393 hx hZ hown (host := "") (Or.inl (hw _ (List.mem_of_getElem? (i := 43) rfl))) Via.refl e393 (V0.fld 3 rfl 1 rfl rfl) (g := (mkF m 38 #[.val (.ref ast), .val (.ref ax), .val (.long 0), .second, .unset, .unset, .unset, .unset, .unset, .unset, .unset, .unset] [(.ref ast), (.int lo), (.ref ax)])) rfl rfl (hb hby d84m8_38)
        refine OGets.step st394 ?_
        obtain ⟨cq395, kq395, q395a, q395b, q395c⟩ := isOf hZ e394 (V0.exa 0 rfl)
        obtain ⟨_, _, ⟨T395, L395, k395, n395⟩, -, X395, ⟨Lc395, hQ395, l395, y395, z395⟩, st395⟩ := X394.interfaceBack hx (xi := (⟨"com/example/pelt/pelt/Strand$Parts", "range", "(II)J"⟩ : MethodName)) (y := (⟨"com/example/pelt/pelt/StackCounts$2", "range", "(II)J"⟩ : MethodName)) hown (mvT hZ (hw _ (List.mem_of_getElem? (i := 90) rfl))) (mvT hZ (hw _ (List.mem_of_getElem? (i := 91) rfl))) (mvT hZ (hw _ (List.mem_of_getElem? (i := 92) rfl))) (mvT hZ (hw _ (List.mem_of_getElem? (i := 93) rfl))) (mvT hZ (hw _ (List.mem_of_getElem? (i := 94) rfl))) (mvT hZ (hw _ (List.mem_of_getElem? (i := 95) rfl))) (mvT hZ (hw _ (List.mem_of_getElem? (i := 96) rfl))) (mvT hZ (hw _ (List.mem_of_getElem? (i := 97) rfl))) (by decide) (backOf (W := 0) (rm_rg l Z a0 hw [] ax ao ast au ac (.ref ab) (.ref ay) per hg lo hi CC h0 n0 (oS ast [(.int lo), (.int hi), (.int per), (.int ph), (.int wd)] :: oA ab BB :: F) Z0 (by simp only [hlC]) H.f.1.1 H.f.1.2 V0) hZ (hw _ (List.mem_of_getElem? (i := 98) rfl)) (hw _ (List.mem_of_getElem? (i := 58) rfl)) (by decide) (by decide)) q395a q395b q395c (g := (mkF m 41 #[.val (.ref ast), .val (.ref ax), .val (.long 0), .second, .unset, .unset, .unset, .unset, .unset, .unset, .unset, .unset] [(.int hi), (.int lo), (.ref ax)])) rfl (by rw [hml]; rfl) (Steps.refl _) (argsL := [(.int lo), (.int hi)]) (rest := []) (lenOf pd_7 rfl) rfl (by show 2 * 0 + _ ≤ _; exact Nat.le_of_eq rfl) (hb hby d84m8_41) (fun _ _ => ⟨rfl, e394, Nat.le_of_ble_eq_true rfl, Nat.le_of_ble_eq_true rfl⟩)
        dsimp only [Pt.U, Pt.locs, Pt.cells, Pt.slots] at X395 l395 y395 z395 st395 hQ395
        rw [l395, y395, z395] at X395
        obtain ⟨rfl, N395q, V395⟩ := hQ395
        have N395 := Fr.app N0 N395q
        have V395v : OView Z n0 T395.heap (oX ax [(.ref ao), (.ref ast)] :: oC ao [(.int per), (.ref au), (.ref ac), (.ref ab), (.ref ay), (.int hg)] :: oA ac (rgF CC lo hi) :: oS ast [(.int lo), (.int hi), (.int per), (.int ph), (.int wd)] :: oA ab BB :: F) := V395
        have Z395 : n0 ≤ T395.heap.size := V395v.big 0 rfl
        refine OGets.after st395 ?_
        refine OGets.step (fun _ => XS.lstoreN X395.here hx rfl (hb hby d84m8_46) rfl (l' := #[.val (.ref ast), .val (.ref ax), .val (.long 0), .second, .unset, .unset, .unset, .unset, .unset, .unset, .unset, .unset]) rfl) ?_
        refine OGets.step (fun _ => XS.goto X395.here hx rfl (pc0 := 47) (pc' := 309) rfl (hb hby d84m8_47) (by decide) (by decide)) ?_
        refine OGets.step (fun _ => XS.lloadN X395.here hx rfl (hb hby d84m8_309) rfl) ?_
        refine OGets.retJ X395 hx hlk Bd.returns (hb hby d84m8_310) (Nat.le_of_ble_eq_true rfl) (Nat.le_of_ble_eq_true rfl) ?_
        have t1 : spB per lo hi ph wd CC BB = ((rgF CC lo hi), BB) := (if_neg hc10_339).trans ((if_neg hc18_344).trans (if_neg hc29_350))
        refine ⟨rfl, N395, ?_⟩
        rw [t1]
        exact V395v
theorem d78m6_0 : decode prog_78_method_6_code 0 = .ok (.aload_n 1, 1) := by decide +kernel
theorem d78m6_1 : decode prog_78_method_6_code 1 = .ok (.new 41, 3) := by decide +kernel
theorem d78m6_4 : decode prog_78_method_6_code 4 = .ok (.dup, 1) := by decide +kernel
theorem d78m6_5 : decode prog_78_method_6_code 5 = .ok (.aload_n 0, 1) := by decide +kernel
theorem d78m6_6 : decode prog_78_method_6_code 6 = .ok (.aload_n 1, 1) := by decide +kernel
theorem d78m6_7 : decode prog_78_method_6_code 7 = .ok (.invokespecial 43, 3) := by decide +kernel
theorem pd_10 : parseMethodDescriptor "(Lcom/example/pelt/pelt/StackCounts;Lcom/example/pelt/pelt/Strand;)V" = some ⟨[(.object "com/example/pelt/pelt/StackCounts"), (.object "com/example/pelt/pelt/Strand")], none⟩ := by decide +kernel
theorem d78m6_10 : decode prog_78_method_6_code 10 = .ok (.invokevirtual 35, 3) := by decide +kernel
theorem pd_11 : parseMethodDescriptor "(Lcom/example/pelt/pelt/Strand$Parts;)J" = some ⟨[(.object "com/example/pelt/pelt/Strand$Parts")], some .long⟩ := by decide +kernel
theorem d78m6_13 : decode prog_78_method_6_code 13 = .ok (.pop2, 1) := by decide +kernel
theorem d78m6_14 : decode prog_78_method_6_code 14 = .ok (.return_, 1) := by decide +kernel
theorem ef_covN (m : MethodId) (x0 : Addr) (x1 : Addr) : entryFrame m #[(.ref x0), (.ref x1)] 2 = mkF m 0 #[.val (.ref x0), .val (.ref x1)] [] := by first | (simp [entryFrame, mkF, argsToLocals, Value.category]; done) | rfl
def Q_covN (Z : State) (ao : Addr) (ast : Addr) (au : Addr) (ac : Addr) (lo : Int32) (hi : Int32) (per : Int32) (ph : Int32) (wd : Int32) (hg : Int32) (CC : List Int32) (h0 : Heap) (n0 : Nat) (F : List (Addr × OObj)) (v : Option Value) (h : Heap) (L : List Loc) : Prop := v = none ∧ Fr n0 L ∧ ∃ ax : Addr, OView Z n0 h (oX ax [(.ref ao), (.ref ast)] :: oC ao [(.int per), (.ref au), (.ref ac), .null, .null, (.int hg)] :: oA ac (spN per lo hi ph wd CC) :: oS ast [(.int lo), (.int hi), (.int per), (.int ph), (.int wd)] :: F)
set_option maxRecDepth 65536 in
set_option maxHeartbeats 40000000 in
theorem rm_covN (l : Launch) (Z : State) (a0 : Array Value) (hw : ∀ d ∈ tables_1, d.before a0 Z = true) (ws : List Jvm.Cond) (ao : Addr) (ast : Addr) (au : Addr) (ac : Addr) (lo : Int32) (hi : Int32) (per : Int32) (ph : Int32) (wd : Int32) (hg : Int32) (CC : List Int32) (h0 : Heap) (n0 : Nat) (F : List (Addr × OObj)) (Z0 : n0 ≤ h0.size) (H : Dom per lo hi ph wd) (hN : ¬ ((1 : Int32) < per ∧ per < (5 : Int32))) (hlC : CC.length = 5) (V0 : OView Z n0 h0 (oC ao [(.int per), (.ref au), (.ref ac), .null, .null, (.int hg)] :: oA ac CC :: oS ast [(.int lo), (.int hi), (.int per), (.int ph), (.int wd)] :: F)) :
    MetFree l (⟨"com/example/pelt/pelt/StackCounts", "cover", "(Lcom/example/pelt/pelt/Strand;)V"⟩ : MethodName) (head1 (Jvm.Cond.code (⟨"com/example/pelt/pelt/StackCounts", "cover", "(Lcom/example/pelt/pelt/Strand;)V"⟩ : MethodName) prog_78_method_6_code 2 none :: ws) ({ frames := 2, cells := 1, slots := 2, locals := 42 } : Room)) (fun a_ U => a_ = #[(.ref ao), (.ref ast)] ∧ Z.Warmed39 U.vm ∧ U.heap = h0) (fun _ _ _ _ _ => True) (fun _ U o U' => ∃ v L, o = .returned v ∧ Q_covN Z ao ast au ac lo hi per ph wd hg CC h0 n0 F v U'.heap L ∧ FrameEnd U o U' L ({ frames := 2, cells := 1, slots := 2, locals := 42 } : Room).cells ({ frames := 2, cells := 1, slots := 2, locals := 42 } : Room).slots) := by
  refine MetFree.of_bodySF (plainFor_of_name pn_3) hisR ?_
  intro p e s m args below meth c s₁ Bd hml0 hP hK
  obtain ⟨rfl, hZ, hh⟩ := hP
  have hx := Bd.exec
  have hby := Bd.bytes
  have hlk : meth.locks = false := Bd.notSynchronized
  have hml : c.maxLocals = 2 := hml0
  have hown : s.vm.findClass "com/example/pelt/pelt/StackCounts" = some m.cls := findClass_of_methodNamed Bd.named
  have hnm := (name_of_methodNamed Bd.named Bd.method).1
  have X0 : Stand p l e ({ frames := 2, cells := 1, slots := 2, locals := 42 } : Room) s m #[(.ref ao), (.ref ast)] below meth c s₁ [] 0 0 := Stand.of_body Bd
  have e0 : s₁.heap = h0 := by rw [← hh, Bd.state]; rfl
  have N0 := Fr.nil n0
  show OGets p e below (OLeaves s (Q_covN Z ao ast au ac lo hi per ph wd hg CC h0 n0 F ) ({ frames := 2, cells := 1, slots := 2, locals := 42 } : Room).cells ({ frames := 2, cells := 1, slots := 2, locals := 42 } : Room).slots) _
  refine OGets.enter (ef_covN m ao ast) ?_
  show OGets p e below _ (s₁.setTop (mkF m 0 #[.val (.ref ao), .val (.ref ast)] []))
  refine OGets.step (fun _ => XS.aloadN X0.here hx rfl (hb hby d78m6_0) rfl rfl) ?_
  obtain ⟨T396, h396, X396, e396, E396, A396, D396, -, st396⟩ := newO X0 hx hZ hown (hw _ (List.mem_of_getElem? (i := 56) rfl)) (hw _ (List.mem_of_getElem? (i := 57) rfl)) (hw _ (List.mem_of_getElem? (i := 58) rfl)) e0 (g := (mkF m 1 #[.val (.ref ao), .val (.ref ast)] [(.ref ast)])) rfl (hb hby d78m6_1) (by decide) (by decide)
  have V396' := V0.newObj (ns := ns_StackCounts_2) (vs := [.null, .null]) Z0 E396 A396 D396 (lay_ns_StackCounts_2 hw) (by decide) (by decide)
  have Z396 : n0 ≤ h396.size := Nat.le_trans Z0 E396.1
  obtain ⟨b396, g396⟩ : ∃ z, z = h0.size := ⟨_, rfl⟩
  rw [← g396] at V396' st396
  have V396 : OView Z n0 h396 (oX b396 [.null, .null] :: oC ao [(.int per), (.ref au), (.ref ac), .null, .null, (.int hg)] :: oA ac CC :: oS ast [(.int lo), (.int hi), (.int per), (.int ph), (.int wd)] :: F) := V396'
  refine OGets.step st396 ?_
  refine OGets.step (fun _ => XS.dup X396.here hx rfl (hb hby d78m6_4) rfl rfl) ?_
  refine OGets.step (fun _ => XS.aloadN X396.here hx rfl (hb hby d78m6_5) rfl rfl) ?_
  refine OGets.step (fun _ => XS.aloadN X396.here hx rfl (hb hby d78m6_6) rfl rfl) ?_
  obtain ⟨_, _, ⟨T397, L397, k397, n397⟩, -, X397, ⟨Lc397, hQ397, l397, y397, z397⟩, st397⟩ := X396.specialBack hx (y := (⟨"com/example/pelt/pelt/StackCounts$2", "<init>", "(Lcom/example/pelt/pelt/StackCounts;Lcom/example/pelt/pelt/Strand;)V"⟩ : MethodName)) rfl hown (mvT hZ (hw _ (List.mem_of_getElem? (i := 59) rfl))) (mvT hZ (hw _ (List.mem_of_getElem? (i := 60) rfl))) (mvT hZ (hw _ (List.mem_of_getElem? (i := 61) rfl))) (by decide) (backOf (W := 2) (rm_in2 l Z a0 hw [] b396 ao ast h396 n0 (oC ao [(.int per), (.ref au), (.ref ac), .null, .null, (.int hg)] :: oA ac CC :: oS ast [(.int lo), (.int hi), (.int per), (.int ph), (.int wd)] :: F) Z396  V396) hZ (hw _ (List.mem_of_getElem? (i := 61) rfl)) (hw _ (List.mem_of_getElem? (i := 58) rfl)) (by decide) (by decide)) (g := (mkF m 7 #[.val (.ref ao), .val (.ref ast)] [(.ref ast), (.ref ao), (.ref b396), (.ref b396), (.ref ast)])) rfl (by rw [hml]; rfl) (Steps.refl _) (a := b396) (argsL := [(.ref ao), (.ref ast)]) (rest := [(.ref b396), (.ref ast)]) (lenOf pd_10 rfl) rfl (by show 2 * 0 + _ ≤ _; exact Nat.le_of_eq rfl) (hb hby d78m6_7) (fun _ _ => ⟨rfl, e396, Nat.le_of_ble_eq_true rfl, Nat.le_of_ble_eq_true rfl⟩)
  dsimp only [Pt.U, Pt.locs, Pt.cells, Pt.slots] at X397 l397 y397 z397 st397 hQ397
  rw [l397, y397, z397] at X397
  obtain ⟨rfl, N397q, V397⟩ := hQ397
  have N397 := Fr.app N0 N397q
  have V397v : OView Z n0 T397.heap (oX b396 [(.ref ao), (.ref ast)] :: oC ao [(.int per), (.ref au), (.ref ac), .null, .null, (.int hg)] :: oA ac CC :: oS ast [(.int lo), (.int hi), (.int per), (.int ph), (.int wd)] :: F) := V397
  have Z397 : n0 ≤ T397.heap.size := V397v.big 0 rfl
  refine OGets.after st397 ?_
  obtain ⟨cq398, kq398, q398a, q398b, q398c⟩ := isOf hZ rfl (V397v.exa 3 rfl)
  obtain ⟨_, _, ⟨T398, L398, k398, n398⟩, -, X398, ⟨Lc398, hQ398, l398, y398, z398⟩, st398⟩ := X397.virtualBack hx (y := (⟨"com/example/pelt/pelt/Strand", "split", "(Lcom/example/pelt/pelt/Strand$Parts;)J"⟩ : MethodName)) (z := (⟨"com/example/pelt/pelt/Strand", "split", "(Lcom/example/pelt/pelt/Strand$Parts;)J"⟩ : MethodName)) hown (mvT hZ (hw _ (List.mem_of_getElem? (i := 67) rfl))) (mvT hZ (hw _ (List.mem_of_getElem? (i := 68) rfl))) (notFace_of_selects (args := #[]) (mvT hZ (hw _ (List.mem_of_getElem? (i := 70) rfl)))) (mvT hZ (hw _ (List.mem_of_getElem? (i := 70) rfl))) (mvT hZ (hw _ (List.mem_of_getElem? (i := 69) rfl))) (by decide) (backOf (W := 0) (rm_spN l Z a0 hw [] b396 ao ast au ac lo hi per ph wd hg CC T397.heap n0 (F) Z397 H hN hlC V397v) hZ (hw _ (List.mem_of_getElem? (i := 71) rfl)) (hw _ (List.mem_of_getElem? (i := 31) rfl)) (by decide) (by decide)) q398a q398c (g := (mkF m 10 #[.val (.ref ao), .val (.ref ast)] [(.ref b396), (.ref ast)])) rfl (by rw [hml]; rfl) (Steps.refl _) (argsL := [(.ref b396)]) (rest := []) (lenOf pd_11 rfl) rfl (by show 2 * 0 + _ ≤ _; exact Nat.le_of_eq rfl) (hb hby d78m6_10) (fun _ _ => ⟨rfl, rfl, Nat.le_of_ble_eq_true rfl, Nat.le_of_ble_eq_true rfl⟩)
  dsimp only [Pt.U, Pt.locs, Pt.cells, Pt.slots] at X398 l398 y398 z398 st398 hQ398
  rw [l398, y398, z398] at X398
  obtain ⟨rfl, N398q, V398⟩ := hQ398
  have N398 := Fr.app N397 N398q
  have V398v : OView Z n0 T398.heap (oX b396 [(.ref ao), (.ref ast)] :: oC ao [(.int per), (.ref au), (.ref ac), .null, .null, (.int hg)] :: oA ac (spN per lo hi ph wd CC) :: oS ast [(.int lo), (.int hi), (.int per), (.int ph), (.int wd)] :: F) := V398
  have Z398 : n0 ≤ T398.heap.size := V398v.big 0 rfl
  refine OGets.after st398 ?_
  refine OGets.step (U' := T398.setTop (mkF m 14 #[.val (.ref ao), .val (.ref ast)] [])) (fun t kt => ?_) ?_
  · jvm_step X398.here [X398.here.top, hx, (hb hby d78m6_13), Value.category]
    exact kt
  refine OGets.retV X398 hx hlk Bd.returns (hb hby d78m6_14) (Nat.le_of_ble_eq_true rfl) (Nat.le_of_ble_eq_true rfl) ?_
  exact ⟨rfl, N398, b396, V398v⟩
theorem ef_covB (m : MethodId) (x0 : Addr) (x1 : Addr) : entryFrame m #[(.ref x0), (.ref x1)] 2 = mkF m 0 #[.val (.ref x0), .val (.ref x1)] [] := by first | (simp [entryFrame, mkF, argsToLocals, Value.category]; done) | rfl
def Q_covB (Z : State) (ao : Addr) (ast : Addr) (au : Addr) (ac : Addr) (ab : Addr) (ay : Addr) (lo : Int32) (hi : Int32) (per : Int32) (ph : Int32) (wd : Int32) (hg : Int32) (CC : List Int32) (BB : List Int32) (h0 : Heap) (n0 : Nat) (F : List (Addr × OObj)) (v : Option Value) (h : Heap) (L : List Loc) : Prop := v = none ∧ Fr n0 L ∧ ∃ ax : Addr, OView Z n0 h (oX ax [(.ref ao), (.ref ast)] :: oC ao [(.int per), (.ref au), (.ref ac), (.ref ab), (.ref ay), (.int hg)] :: oA ac (spB per lo hi ph wd CC BB).1 :: oS ast [(.int lo), (.int hi), (.int per), (.int ph), (.int wd)] :: oA ab (spB per lo hi ph wd CC BB).2 :: F)
set_option maxRecDepth 65536 in
set_option maxHeartbeats 40000000 in
theorem rm_covB (l : Launch) (Z : State) (a0 : Array Value) (hw : ∀ d ∈ tables_1, d.before a0 Z = true) (ws : List Jvm.Cond) (ao : Addr) (ast : Addr) (au : Addr) (ac : Addr) (ab : Addr) (ay : Addr) (lo : Int32) (hi : Int32) (per : Int32) (ph : Int32) (wd : Int32) (hg : Int32) (CC : List Int32) (BB : List Int32) (h0 : Heap) (n0 : Nat) (F : List (Addr × OObj)) (Z0 : n0 ≤ h0.size) (H : Dom per lo hi ph wd) (hB : (1 : Int32) < per ∧ per < (5 : Int32)) (hlC : CC.length = 5) (hlB : BB.length = 5) (V0 : OView Z n0 h0 (oC ao [(.int per), (.ref au), (.ref ac), (.ref ab), (.ref ay), (.int hg)] :: oA ac CC :: oS ast [(.int lo), (.int hi), (.int per), (.int ph), (.int wd)] :: oA ab BB :: F)) :
    MetFree l (⟨"com/example/pelt/pelt/StackCounts", "cover", "(Lcom/example/pelt/pelt/Strand;)V"⟩ : MethodName) (head1 (Jvm.Cond.code (⟨"com/example/pelt/pelt/StackCounts", "cover", "(Lcom/example/pelt/pelt/Strand;)V"⟩ : MethodName) prog_78_method_6_code 2 none :: ws) ({ frames := 3, cells := 1, slots := 2, locals := 57 } : Room)) (fun a_ U => a_ = #[(.ref ao), (.ref ast)] ∧ Z.Warmed39 U.vm ∧ U.heap = h0) (fun _ _ _ _ _ => True) (fun _ U o U' => ∃ v L, o = .returned v ∧ Q_covB Z ao ast au ac ab ay lo hi per ph wd hg CC BB h0 n0 F v U'.heap L ∧ FrameEnd U o U' L ({ frames := 3, cells := 1, slots := 2, locals := 57 } : Room).cells ({ frames := 3, cells := 1, slots := 2, locals := 57 } : Room).slots) := by
  refine MetFree.of_bodySF (plainFor_of_name pn_3) hisR ?_
  intro p e s m args below meth c s₁ Bd hml0 hP hK
  obtain ⟨rfl, hZ, hh⟩ := hP
  have hx := Bd.exec
  have hby := Bd.bytes
  have hlk : meth.locks = false := Bd.notSynchronized
  have hml : c.maxLocals = 2 := hml0
  have hown : s.vm.findClass "com/example/pelt/pelt/StackCounts" = some m.cls := findClass_of_methodNamed Bd.named
  have hnm := (name_of_methodNamed Bd.named Bd.method).1
  have X0 : Stand p l e ({ frames := 3, cells := 1, slots := 2, locals := 57 } : Room) s m #[(.ref ao), (.ref ast)] below meth c s₁ [] 0 0 := Stand.of_body Bd
  have e0 : s₁.heap = h0 := by rw [← hh, Bd.state]; rfl
  have N0 := Fr.nil n0
  show OGets p e below (OLeaves s (Q_covB Z ao ast au ac ab ay lo hi per ph wd hg CC BB h0 n0 F ) ({ frames := 3, cells := 1, slots := 2, locals := 57 } : Room).cells ({ frames := 3, cells := 1, slots := 2, locals := 57 } : Room).slots) _
  refine OGets.enter (ef_covB m ao ast) ?_
  show OGets p e below _ (s₁.setTop (mkF m 0 #[.val (.ref ao), .val (.ref ast)] []))
  refine OGets.step (fun _ => XS.aloadN X0.here hx rfl (hb hby d78m6_0) rfl rfl) ?_
  obtain ⟨T399, h399, X399, e399, E399, A399, D399, -, st399⟩ := newO X0 hx hZ hown (hw _ (List.mem_of_getElem? (i := 56) rfl)) (hw _ (List.mem_of_getElem? (i := 57) rfl)) (hw _ (List.mem_of_getElem? (i := 58) rfl)) e0 (g := (mkF m 1 #[.val (.ref ao), .val (.ref ast)] [(.ref ast)])) rfl (hb hby d78m6_1) (by decide) (by decide)
  have V399' := V0.newObj (ns := ns_StackCounts_2) (vs := [.null, .null]) Z0 E399 A399 D399 (lay_ns_StackCounts_2 hw) (by decide) (by decide)
  have Z399 : n0 ≤ h399.size := Nat.le_trans Z0 E399.1
  obtain ⟨b399, g399⟩ : ∃ z, z = h0.size := ⟨_, rfl⟩
  rw [← g399] at V399' st399
  have V399 : OView Z n0 h399 (oX b399 [.null, .null] :: oC ao [(.int per), (.ref au), (.ref ac), (.ref ab), (.ref ay), (.int hg)] :: oA ac CC :: oS ast [(.int lo), (.int hi), (.int per), (.int ph), (.int wd)] :: oA ab BB :: F) := V399'
  refine OGets.step st399 ?_
  refine OGets.step (fun _ => XS.dup X399.here hx rfl (hb hby d78m6_4) rfl rfl) ?_
  refine OGets.step (fun _ => XS.aloadN X399.here hx rfl (hb hby d78m6_5) rfl rfl) ?_
  refine OGets.step (fun _ => XS.aloadN X399.here hx rfl (hb hby d78m6_6) rfl rfl) ?_
  obtain ⟨_, _, ⟨T400, L400, k400, n400⟩, -, X400, ⟨Lc400, hQ400, l400, y400, z400⟩, st400⟩ := X399.specialBack hx (y := (⟨"com/example/pelt/pelt/StackCounts$2", "<init>", "(Lcom/example/pelt/pelt/StackCounts;Lcom/example/pelt/pelt/Strand;)V"⟩ : MethodName)) rfl hown (mvT hZ (hw _ (List.mem_of_getElem? (i := 59) rfl))) (mvT hZ (hw _ (List.mem_of_getElem? (i := 60) rfl))) (mvT hZ (hw _ (List.mem_of_getElem? (i := 61) rfl))) (by decide) (backOf (W := 2) (rm_in2 l Z a0 hw [] b399 ao ast h399 n0 (oC ao [(.int per), (.ref au), (.ref ac), (.ref ab), (.ref ay), (.int hg)] :: oA ac CC :: oS ast [(.int lo), (.int hi), (.int per), (.int ph), (.int wd)] :: oA ab BB :: F) Z399  V399) hZ (hw _ (List.mem_of_getElem? (i := 61) rfl)) (hw _ (List.mem_of_getElem? (i := 58) rfl)) (by decide) (by decide)) (g := (mkF m 7 #[.val (.ref ao), .val (.ref ast)] [(.ref ast), (.ref ao), (.ref b399), (.ref b399), (.ref ast)])) rfl (by rw [hml]; rfl) (Steps.refl _) (a := b399) (argsL := [(.ref ao), (.ref ast)]) (rest := [(.ref b399), (.ref ast)]) (lenOf pd_10 rfl) rfl (by show 2 * 0 + _ ≤ _; exact Nat.le_of_eq rfl) (hb hby d78m6_7) (fun _ _ => ⟨rfl, e399, Nat.le_of_ble_eq_true rfl, Nat.le_of_ble_eq_true rfl⟩)
  dsimp only [Pt.U, Pt.locs, Pt.cells, Pt.slots] at X400 l400 y400 z400 st400 hQ400
  rw [l400, y400, z400] at X400
  obtain ⟨rfl, N400q, V400⟩ := hQ400
  have N400 := Fr.app N0 N400q
  have V400v : OView Z n0 T400.heap (oX b399 [(.ref ao), (.ref ast)] :: oC ao [(.int per), (.ref au), (.ref ac), (.ref ab), (.ref ay), (.int hg)] :: oA ac CC :: oS ast [(.int lo), (.int hi), (.int per), (.int ph), (.int wd)] :: oA ab BB :: F) := V400
  have Z400 : n0 ≤ T400.heap.size := V400v.big 0 rfl
  refine OGets.after st400 ?_
  obtain ⟨cq401, kq401, q401a, q401b, q401c⟩ := isOf hZ rfl (V400v.exa 3 rfl)
  obtain ⟨_, _, ⟨T401, L401, k401, n401⟩, -, X401, ⟨Lc401, hQ401, l401, y401, z401⟩, st401⟩ := X400.virtualBack hx (y := (⟨"com/example/pelt/pelt/Strand", "split", "(Lcom/example/pelt/pelt/Strand$Parts;)J"⟩ : MethodName)) (z := (⟨"com/example/pelt/pelt/Strand", "split", "(Lcom/example/pelt/pelt/Strand$Parts;)J"⟩ : MethodName)) hown (mvT hZ (hw _ (List.mem_of_getElem? (i := 67) rfl))) (mvT hZ (hw _ (List.mem_of_getElem? (i := 68) rfl))) (notFace_of_selects (args := #[]) (mvT hZ (hw _ (List.mem_of_getElem? (i := 70) rfl)))) (mvT hZ (hw _ (List.mem_of_getElem? (i := 70) rfl))) (mvT hZ (hw _ (List.mem_of_getElem? (i := 69) rfl))) (by decide) (backOf (W := 0) (rm_spB l Z a0 hw [] b399 ao ast au ac ab ay lo hi per ph wd hg CC BB T400.heap n0 (F) Z400 H hB hlC hlB V400v) hZ (hw _ (List.mem_of_getElem? (i := 71) rfl)) (hw _ (List.mem_of_getElem? (i := 31) rfl)) (by decide) (by decide)) q401a q401c (g := (mkF m 10 #[.val (.ref ao), .val (.ref ast)] [(.ref b399), (.ref ast)])) rfl (by rw [hml]; rfl) (Steps.refl _) (argsL := [(.ref b399)]) (rest := []) (lenOf pd_11 rfl) rfl (by show 2 * 0 + _ ≤ _; exact Nat.le_of_eq rfl) (hb hby d78m6_10) (fun _ _ => ⟨rfl, rfl, Nat.le_of_ble_eq_true rfl, Nat.le_of_ble_eq_true rfl⟩)
  dsimp only [Pt.U, Pt.locs, Pt.cells, Pt.slots] at X401 l401 y401 z401 st401 hQ401
  rw [l401, y401, z401] at X401
  obtain ⟨rfl, N401q, V401⟩ := hQ401
  have N401 := Fr.app N400 N401q
  have V401v : OView Z n0 T401.heap (oX b399 [(.ref ao), (.ref ast)] :: oC ao [(.int per), (.ref au), (.ref ac), (.ref ab), (.ref ay), (.int hg)] :: oA ac (spB per lo hi ph wd CC BB).1 :: oS ast [(.int lo), (.int hi), (.int per), (.int ph), (.int wd)] :: oA ab (spB per lo hi ph wd CC BB).2 :: F) := V401
  have Z401 : n0 ≤ T401.heap.size := V401v.big 0 rfl
  refine OGets.after st401 ?_
  refine OGets.step (U' := T401.setTop (mkF m 14 #[.val (.ref ao), .val (.ref ast)] [])) (fun t kt => ?_) ?_
  · jvm_step X401.here [X401.here.top, hx, (hb hby d78m6_13), Value.category]
    exact kt
  refine OGets.retV X401 hx hlk Bd.returns (hb hby d78m6_14) (Nat.le_of_ble_eq_true rfl) (Nat.le_of_ble_eq_true rfl) ?_
  exact ⟨rfl, N401, b399, V401v⟩
theorem d78m2_0 : decode prog_78_method_2_code 0 = .ok (.aload_n 0, 1) := by decide +kernel
theorem d78m2_1 : decode prog_78_method_2_code 1 = .ok (.getfield 27, 3) := by decide +kernel
theorem d78m2_4 : decode prog_78_method_2_code 4 = .ok (.ireturn, 1) := by decide +kernel
theorem ef_hgt (m : MethodId) (x0 : Addr) : entryFrame m #[(.ref x0)] 1 = mkF m 0 #[.val (.ref x0)] [] := by first | (simp [entryFrame, mkF, argsToLocals, Value.category]; done) | rfl
def Q_hgt (Z : State) (ao : Addr) (au : Addr) (ac : Addr) (vb : Value) (vy : Value) (per : Int32) (hg : Int32) (h0 : Heap) (n0 : Nat) (F : List (Addr × OObj)) (v : Option Value) (h : Heap) (L : List Loc) : Prop := v = some (.int hg) ∧ L = [] ∧ h = h0
set_option maxRecDepth 65536 in
set_option maxHeartbeats 40000000 in
theorem rm_hgt (l : Launch) (Z : State) (a0 : Array Value) (hw : ∀ d ∈ tables_1, d.before a0 Z = true) (ws : List Jvm.Cond) (ao : Addr) (au : Addr) (ac : Addr) (vb : Value) (vy : Value) (per : Int32) (hg : Int32) (h0 : Heap) (n0 : Nat) (F : List (Addr × OObj)) (Z0 : n0 ≤ h0.size) (V0 : OView Z n0 h0 (oC ao [(.int per), (.ref au), (.ref ac), vb, vy, (.int hg)] :: F)) :
    MetFree l (⟨"com/example/pelt/pelt/StackCounts", "height", "()I"⟩ : MethodName) (head1 (Jvm.Cond.code (⟨"com/example/pelt/pelt/StackCounts", "height", "()I"⟩ : MethodName) prog_78_method_2_code 1 (some .int) :: ws) ({ frames := 0, cells := 0, slots := 0, locals := 0 } : Room)) (fun a_ U => a_ = #[(.ref ao)] ∧ Z.Warmed39 U.vm ∧ U.heap = h0) (fun _ _ _ _ _ => True) (fun _ U o U' => ∃ v L, o = .returned v ∧ Q_hgt Z ao au ac vb vy per hg h0 n0 F v U'.heap L ∧ FrameEnd U o U' L ({ frames := 0, cells := 0, slots := 0, locals := 0 } : Room).cells ({ frames := 0, cells := 0, slots := 0, locals := 0 } : Room).slots) := by
  refine MetFree.of_bodySF (plainFor_of_name pn_3) hisR ?_
  intro p e s m args below meth c s₁ Bd hml0 hP hK
  obtain ⟨rfl, hZ, hh⟩ := hP
  have hx := Bd.exec
  have hby := Bd.bytes
  have hlk : meth.locks = false := Bd.notSynchronized
  have hml : c.maxLocals = 1 := hml0
  have hown : s.vm.findClass "com/example/pelt/pelt/StackCounts" = some m.cls := findClass_of_methodNamed Bd.named
  have hnm := (name_of_methodNamed Bd.named Bd.method).1
  have X0 : Stand p l e ({ frames := 0, cells := 0, slots := 0, locals := 0 } : Room) s m #[(.ref ao)] below meth c s₁ [] 0 0 := Stand.of_body Bd
  have e0 : s₁.heap = h0 := by rw [← hh, Bd.state]; rfl
  have N0 := Fr.nil n0
  show OGets p e below (OLeaves s (Q_hgt Z ao au ac vb vy per hg h0 n0 F ) ({ frames := 0, cells := 0, slots := 0, locals := 0 } : Room).cells ({ frames := 0, cells := 0, slots := 0, locals := 0 } : Room).slots) _
  refine OGets.enter (ef_hgt m ao) ?_
  show OGets p e below _ (s₁.setTop (mkF m 0 #[.val (.ref ao)] []))
  refine OGets.step (fun _ => XS.aloadN X0.here hx rfl (hb hby d78m2_0) rfl rfl) ?_
  obtain ⟨T402, X402, e402, st402⟩ := getF X0 hx hZ hown (host := "") (Or.inl (hw _ (List.mem_of_getElem? (i := 27) rfl))) Via.refl e0 (V0.fld 0 rfl 5 rfl rfl) (g := (mkF m 1 #[.val (.ref ao)] [(.ref ao)])) rfl rfl (hb hby d78m2_1)
  refine OGets.step st402 ?_
  refine OGets.retI X402 hx hlk Bd.returns (hb hby d78m2_4) (Nat.le_of_ble_eq_true rfl) (Nat.le_of_ble_eq_true rfl) ?_
  exact ⟨rfl, rfl, e402⟩
theorem spB_len1 (per lo hi ph wd : Int32) (C B : List Int32) : (spB per lo hi ph wd C B).1.length = C.length := (spB_len per lo hi ph wd C B).1
theorem spB_len2 (per lo hi ph wd : Int32) (C B : List Int32) : (spB per lo hi ph wd C B).2.length = B.length := (spB_len per lo hi ph wd C B).2
theorem own_per {per : Int32} (hB : (1 : Int32) < per ∧ per < (5 : Int32)) : per = (2 : Int32) ∨ per = (3 : Int32) ∨ per = (4 : Int32) := by
  obtain ⟨h1, h2⟩ := hB
  simp only [Int32.lt_iff_toInt_lt, Int32.reduceToInt] at h1 h2
  simp only [← Int32.toInt_inj, Int32.reduceToInt]
  omega
theorem own_h3 {per hg : Int32} (hB : (1 : Int32) < per ∧ per < (5 : Int32)) (hh0 : hg = 0 ∨ hg = 1 ∨ hg = 2 ∨ hg = 3 ∨ hg = 4) : ¬ hg + (1 : Int32) < per → inb 6 (hg + (1 : Int32) - per) := by
  rcases own_per hB with rfl | rfl | rfl <;> rcases hh0 with rfl | rfl | rfl | rfl | rfl <;> decide
theorem own_h2 {per hg : Int32} (hB : (1 : Int32) < per ∧ per < (5 : Int32)) (hh0 : hg = 1 ∨ hg = 2 ∨ hg = 3 ∨ hg = 4 ∨ hg = 5) (hc : hg ≤ (5 : Int32) := by decide) : ¬ hg - (1 : Int32) < per → inb 5 (hg - (1 : Int32) - per) := by
  rcases own_per hB with rfl | rfl | rfl <;> rcases hh0 with rfl | rfl | rfl | rfl | rfl <;> revert hc <;> decide
def f_mod (p0 : Int32) (p1 : Int32) : Int32 := (if (p0 % p1) < (0 : Int32) then ((p0 % p1) + p1) else (p0 % p1))
theorem pn_12 : plainName "com/example/pelt/pelt/StackCountsPopPinLaw" = true := by first | (simp [plainName, overriddenIn]; done) | decide +kernel
theorem dm2_0 : decode method_2_code 0 = .ok (.iload_n 0, 1) := by decide +kernel
theorem dm2_1 : decode method_2_code 1 = .ok (.iload_n 1, 1) := by decide +kernel
theorem dm2_2 : decode method_2_code 2 = .ok (.irem, 1) := by decide +kernel
theorem dm2_3 : decode method_2_code 3 = .ok (.istore_n 2, 1) := by decide +kernel
theorem dm2_4 : decode method_2_code 4 = .ok (.iload_n 2, 1) := by decide +kernel
theorem dm2_5 : decode method_2_code 5 = .ok (.ifCond .ge 9, 3) := by decide +kernel
theorem dm2_8 : decode method_2_code 8 = .ok (.iload_n 2, 1) := by decide +kernel
theorem dm2_9 : decode method_2_code 9 = .ok (.iload_n 1, 1) := by decide +kernel
theorem dm2_10 : decode method_2_code 10 = .ok (.iadd, 1) := by decide +kernel
theorem dm2_11 : decode method_2_code 11 = .ok (.goto 4, 3) := by decide +kernel
theorem dm2_15 : decode method_2_code 15 = .ok (.ireturn, 1) := by decide +kernel
theorem dm2_14 : decode method_2_code 14 = .ok (.iload_n 2, 1) := by decide +kernel
theorem ef_mod (m : MethodId) (x0 : Int32) (x1 : Int32) : entryFrame m #[(.int x0), (.int x1)] 3 = mkF m 0 #[.val (.int x0), .val (.int x1), .unset] [] := by first | (simp [entryFrame, mkF, argsToLocals, Value.category]; done) | rfl
def Q_mod (Z : State) (p0 : Int32) (p1 : Int32) (h0 : Heap) (n0 : Nat) (v : Option Value) (h : Heap) (L : List Loc) : Prop := v = some (.int (f_mod p0 p1)) ∧ L = [] ∧ h = h0
set_option maxRecDepth 65536 in
set_option maxHeartbeats 40000000 in
theorem rm_mod (l : Launch) (Z : State) (a0 : Array Value) (hw : ∀ d ∈ tables_1, d.before a0 Z = true) (ws : List Jvm.Cond) (p0 : Int32) (p1 : Int32) (h0 : Heap) (n0 : Nat) (Z0 : n0 ≤ h0.size) (hnz : p1 ≠ (0 : Int32)) :
    MetFree l (⟨"com/example/pelt/pelt/StackCountsPopPinLaw", "mod", "(II)I"⟩ : MethodName) (head1 (Jvm.Cond.code (⟨"com/example/pelt/pelt/StackCountsPopPinLaw", "mod", "(II)I"⟩ : MethodName) method_2_code 3 (some .int) :: ws) ({ frames := 0, cells := 0, slots := 0, locals := 0 } : Room)) (fun a_ U => a_ = #[(.int p0), (.int p1)] ∧ Z.Warmed39 U.vm ∧ U.heap = h0) (fun _ _ _ _ _ => True) (fun _ U o U' => ∃ v L, o = .returned v ∧ Q_mod Z p0 p1 h0 n0 v U'.heap L ∧ FrameEnd U o U' L ({ frames := 0, cells := 0, slots := 0, locals := 0 } : Room).cells ({ frames := 0, cells := 0, slots := 0, locals := 0 } : Room).slots) := by
  refine MetFree.of_bodySF (plainFor_of_name pn_12) hisR ?_
  intro p e s m args below meth c s₁ Bd hml0 hP hK
  obtain ⟨rfl, hZ, hh⟩ := hP
  have hx := Bd.exec
  have hby := Bd.bytes
  have hlk : meth.locks = false := Bd.notSynchronized
  have hml : c.maxLocals = 3 := hml0
  have hown : s.vm.findClass "com/example/pelt/pelt/StackCountsPopPinLaw" = some m.cls := findClass_of_methodNamed Bd.named
  have hnm := (name_of_methodNamed Bd.named Bd.method).1
  have X0 : Stand p l e ({ frames := 0, cells := 0, slots := 0, locals := 0 } : Room) s m #[(.int p0), (.int p1)] below meth c s₁ [] 0 0 := Stand.of_body Bd
  have e0 : s₁.heap = h0 := by rw [← hh, Bd.state]; rfl
  have N0 := Fr.nil n0
  have hv0 : f_mod p0 p1 = (if (p0 % p1) < (0 : Int32) then ((p0 % p1) + p1) else (p0 % p1)) := rfl
  show OGets p e below (OLeaves s (Q_mod Z p0 p1 h0 n0 ) ({ frames := 0, cells := 0, slots := 0, locals := 0 } : Room).cells ({ frames := 0, cells := 0, slots := 0, locals := 0 } : Room).slots) _
  refine OGets.enter (ef_mod m p0 p1) ?_
  show OGets p e below _ (s₁.setTop (mkF m 0 #[.val (.int p0), .val (.int p1), .unset] []))
  refine OGets.step (fun _ => XS.iloadN X0.here hx rfl (hb hby dm2_0) rfl) ?_
  refine OGets.step (fun _ => XS.iloadN X0.here hx rfl (hb hby dm2_1) rfl) ?_
  refine OGets.step (fun _ => iremM (g := (mkF m 2 #[.val (.int p0), .val (.int p1), .unset] [(.int p1), (.int p0)])) X0 hx rfl (hb hby dm2_2) rfl hnz) ?_
  refine OGets.step (fun _ => XS.istoreN X0.here hx rfl (hb hby dm2_3) rfl (l' := #[.val (.int p0), .val (.int p1), .val (.int (p0 % p1))]) rfl) ?_
  refine OGets.step (fun _ => XS.iloadN X0.here hx rfl (hb hby dm2_4) rfl) ?_
  by_cases hc5_403 : (p0 % p1) < (0 : Int32)
  · refine OGets.step (fun _ => XS.ifNo X0.here hx rfl (hb hby dm2_5) rfl ((if0 _ _).trans (tlt hc5_403).2.1)) ?_
    have hv404 := hv0.trans (if_pos hc5_403)
    show OGets p e below _ (s₁.setTop (mkF m 8 #[.val (.int p0), .val (.int p1), .val (.int (p0 % p1))] []))
    refine OGets.step (fun _ => XS.iloadN X0.here hx rfl (hb hby dm2_8) rfl) ?_
    refine OGets.step (fun _ => XS.iloadN X0.here hx rfl (hb hby dm2_9) rfl) ?_
    refine OGets.step (fun _ => XS.iadd X0.here hx rfl (hb hby dm2_10) rfl) ?_
    refine OGets.step (fun _ => XS.goto X0.here hx rfl (pc0 := 11) (pc' := 15) rfl (hb hby dm2_11) (by decide) (by decide)) ?_
    refine OGets.retI X0 hx hlk Bd.returns (hb hby dm2_15) (Nat.le_of_ble_eq_true rfl) (Nat.le_of_ble_eq_true rfl) ?_
    exact ⟨congrArg (fun z => some (Value.int z)) hv404.symm, rfl, e0⟩
  · refine OGets.step (fun _ => XS.ifYes X0.here hx rfl (pc0 := 5) (pc' := 14) rfl (hb hby dm2_5) rfl ((if0 _ _).trans (flt hc5_403).2.1) (by decide) (by decide)) ?_
    have hv405 := hv0.trans (if_neg hc5_403)
    show OGets p e below _ (s₁.setTop (mkF m 14 #[.val (.int p0), .val (.int p1), .val (.int (p0 % p1))] []))
    refine OGets.step (fun _ => XS.iloadN X0.here hx rfl (hb hby dm2_14) rfl) ?_
    refine OGets.retI X0 hx hlk Bd.returns (hb hby dm2_15) (Nat.le_of_ble_eq_true rfl) (Nat.le_of_ble_eq_true rfl) ?_
    exact ⟨congrArg (fun z => some (Value.int z)) hv405.symm, rfl, e0⟩
def f_held_27 (p0 : Int32) (p1 : Int32) (p2 : Int32) (p3 : Int32) (p4 : Int32) (p5 : Int32) : Int32 := (0 : Int32)
def f_held (p0 : Int32) (p1 : Int32) (p2 : Int32) (p3 : Int32) (p4 : Int32) (p5 : Int32) : Int32 := (if p0 < p1 then f_held_27 p0 p1 p2 p3 p4 p5 else (if p2 < p0 then f_held_27 p0 p1 p2 p3 p4 p5 else (if (f_mod (p0 - p4) p3) < p5 then (1 : Int32) else f_held_27 p0 p1 p2 p3 p4 p5)))
theorem dm3_27 : decode method_3_code 27 = .ok (.iconst 0, 1) := by decide +kernel
theorem dm3_28 : decode method_3_code 28 = .ok (.ireturn, 1) := by decide +kernel
theorem dm3_0 : decode method_3_code 0 = .ok (.iload_n 1, 1) := by decide +kernel
theorem dm3_1 : decode method_3_code 1 = .ok (.iload_n 0, 1) := by decide +kernel
theorem dm3_2 : decode method_3_code 2 = .ok (.if_icmp .gt 25, 3) := by decide +kernel
theorem dm3_5 : decode method_3_code 5 = .ok (.iload_n 0, 1) := by decide +kernel
theorem dm3_6 : decode method_3_code 6 = .ok (.iload_n 2, 1) := by decide +kernel
theorem dm3_7 : decode method_3_code 7 = .ok (.if_icmp .gt 20, 3) := by decide +kernel
theorem dm3_10 : decode method_3_code 10 = .ok (.iload_n 0, 1) := by decide +kernel
theorem dm3_11 : decode method_3_code 11 = .ok (.iload 4, 2) := by decide +kernel
theorem dm3_13 : decode method_3_code 13 = .ok (.isub, 1) := by decide +kernel
theorem dm3_14 : decode method_3_code 14 = .ok (.iload_n 3, 1) := by decide +kernel
theorem dm3_15 : decode method_3_code 15 = .ok (.invokestatic 7, 3) := by decide +kernel
theorem dm3_18 : decode method_3_code 18 = .ok (.iload 5, 2) := by decide +kernel
theorem dm3_20 : decode method_3_code 20 = .ok (.if_icmp .ge 7, 3) := by decide +kernel
theorem dm3_23 : decode method_3_code 23 = .ok (.iconst 1, 1) := by decide +kernel
theorem dm3_24 : decode method_3_code 24 = .ok (.goto 4, 3) := by decide +kernel
theorem ef_held (m : MethodId) (x0 : Int32) (x1 : Int32) (x2 : Int32) (x3 : Int32) (x4 : Int32) (x5 : Int32) : entryFrame m #[(.int x0), (.int x1), (.int x2), (.int x3), (.int x4), (.int x5)] 6 = mkF m 0 #[.val (.int x0), .val (.int x1), .val (.int x2), .val (.int x3), .val (.int x4), .val (.int x5)] [] := by first | (simp [entryFrame, mkF, argsToLocals, Value.category]; done) | rfl
def Q_held (Z : State) (p0 : Int32) (p1 : Int32) (p2 : Int32) (p3 : Int32) (p4 : Int32) (p5 : Int32) (h0 : Heap) (n0 : Nat) (v : Option Value) (h : Heap) (L : List Loc) : Prop := v = some (.int (f_held p0 p1 p2 p3 p4 p5)) ∧ L = [] ∧ h = h0
set_option maxRecDepth 65536 in
set_option maxHeartbeats 40000000 in
theorem rm_held (l : Launch) (Z : State) (a0 : Array Value) (hw : ∀ d ∈ tables_1, d.before a0 Z = true) (ws : List Jvm.Cond) (p0 : Int32) (p1 : Int32) (p2 : Int32) (p3 : Int32) (p4 : Int32) (p5 : Int32) (h0 : Heap) (n0 : Nat) (Z0 : n0 ≤ h0.size) (hnz : p3 ≠ (0 : Int32)) :
    MetFree l (⟨"com/example/pelt/pelt/StackCountsPopPinLaw", "held", "(IIIIII)Z"⟩ : MethodName) (head1 (Jvm.Cond.code (⟨"com/example/pelt/pelt/StackCountsPopPinLaw", "held", "(IIIIII)Z"⟩ : MethodName) method_3_code 6 (some .boolean) :: ws) ({ frames := 1, cells := 0, slots := 0, locals := 14 } : Room)) (fun a_ U => a_ = #[(.int p0), (.int p1), (.int p2), (.int p3), (.int p4), (.int p5)] ∧ Z.Warmed39 U.vm ∧ U.heap = h0) (fun _ _ _ _ _ => True) (fun _ U o U' => ∃ v L, o = .returned v ∧ Q_held Z p0 p1 p2 p3 p4 p5 h0 n0 v U'.heap L ∧ FrameEnd U o U' L ({ frames := 1, cells := 0, slots := 0, locals := 14 } : Room).cells ({ frames := 1, cells := 0, slots := 0, locals := 14 } : Room).slots) := by
  refine MetFree.of_bodySF (plainFor_of_name pn_12) hisR ?_
  intro p e s m args below meth c s₁ Bd hml0 hP hK
  obtain ⟨rfl, hZ, hh⟩ := hP
  have hx := Bd.exec
  have hby := Bd.bytes
  have hlk : meth.locks = false := Bd.notSynchronized
  have hml : c.maxLocals = 6 := hml0
  have hown : s.vm.findClass "com/example/pelt/pelt/StackCountsPopPinLaw" = some m.cls := findClass_of_methodNamed Bd.named
  have hnm := (name_of_methodNamed Bd.named Bd.method).1
  have X0 : Stand p l e ({ frames := 1, cells := 0, slots := 0, locals := 14 } : Room) s m #[(.int p0), (.int p1), (.int p2), (.int p3), (.int p4), (.int p5)] below meth c s₁ [] 0 0 := Stand.of_body Bd
  have e0 : s₁.heap = h0 := by rw [← hh, Bd.state]; rfl
  have N0 := Fr.nil n0
  have J27 : ∀ (T : State), Stand p l e ({ frames := 1, cells := 0, slots := 0, locals := 14 } : Room) s m #[(.int p0), (.int p1), (.int p2), (.int p3), (.int p4), (.int p5)] below meth c T [] 0 0 → T.heap = h0 → f_held p0 p1 p2 p3 p4 p5 = f_held_27 p0 p1 p2 p3 p4 p5 → OGets p e below (OLeaves s (Q_held Z p0 p1 p2 p3 p4 p5 h0 n0 ) ({ frames := 1, cells := 0, slots := 0, locals := 14 } : Room).cells ({ frames := 1, cells := 0, slots := 0, locals := 14 } : Room).slots) (T.setTop (mkF m 27 #[.val (.int p0), .val (.int p1), .val (.int p2), .val (.int p3), .val (.int p4), .val (.int p5)] [])) := by
    intro T X eT hv'
    have hv : f_held p0 p1 p2 p3 p4 p5 = (0 : Int32) := hv'
    show OGets p e below _ (T.setTop (mkF m 27 #[.val (.int p0), .val (.int p1), .val (.int p2), .val (.int p3), .val (.int p4), .val (.int p5)] []))
    refine OGets.step (fun _ => XS.iconst X.here hx rfl (hb hby dm3_27)) ?_
    refine OGets.retN X hx hlk (t := .boolean) Bd.returns (by simp) (hb hby dm3_28) (Nat.le_of_ble_eq_true rfl) (Nat.le_of_ble_eq_true rfl) ?_
    exact ⟨congrArg (fun z => some (Value.int z)) hv.symm, rfl, eT⟩
  have hv0 : f_held p0 p1 p2 p3 p4 p5 = (if p0 < p1 then f_held_27 p0 p1 p2 p3 p4 p5 else (if p2 < p0 then f_held_27 p0 p1 p2 p3 p4 p5 else (if (f_mod (p0 - p4) p3) < p5 then (1 : Int32) else f_held_27 p0 p1 p2 p3 p4 p5))) := rfl
  show OGets p e below (OLeaves s (Q_held Z p0 p1 p2 p3 p4 p5 h0 n0 ) ({ frames := 1, cells := 0, slots := 0, locals := 14 } : Room).cells ({ frames := 1, cells := 0, slots := 0, locals := 14 } : Room).slots) _
  refine OGets.enter (ef_held m p0 p1 p2 p3 p4 p5) ?_
  show OGets p e below _ (s₁.setTop (mkF m 0 #[.val (.int p0), .val (.int p1), .val (.int p2), .val (.int p3), .val (.int p4), .val (.int p5)] []))
  refine OGets.step (fun _ => XS.iloadN X0.here hx rfl (hb hby dm3_0) rfl) ?_
  refine OGets.step (fun _ => XS.iloadN X0.here hx rfl (hb hby dm3_1) rfl) ?_
  by_cases hc2_406 : p0 < p1
  · refine OGets.step (fun _ => XS.icmpYes X0.here hx rfl (pc0 := 2) (pc' := 27) rfl (hb hby dm3_2) rfl (tlt hc2_406).2.2.1 (by decide) (by decide)) ?_
    have hv407 := hv0.trans (if_pos hc2_406)
    show OGets p e below _ (s₁.setTop (mkF m 27 #[.val (.int p0), .val (.int p1), .val (.int p2), .val (.int p3), .val (.int p4), .val (.int p5)] []))
    exact J27 s₁ X0 e0 hv407
  · refine OGets.step (fun _ => XS.icmpNo X0.here hx rfl (hb hby dm3_2) rfl (flt hc2_406).2.2.1) ?_
    have hv408 := hv0.trans (if_neg hc2_406)
    show OGets p e below _ (s₁.setTop (mkF m 5 #[.val (.int p0), .val (.int p1), .val (.int p2), .val (.int p3), .val (.int p4), .val (.int p5)] []))
    refine OGets.step (fun _ => XS.iloadN X0.here hx rfl (hb hby dm3_5) rfl) ?_
    refine OGets.step (fun _ => XS.iloadN X0.here hx rfl (hb hby dm3_6) rfl) ?_
    by_cases hc7_409 : p2 < p0
    · refine OGets.step (fun _ => XS.icmpYes X0.here hx rfl (pc0 := 7) (pc' := 27) rfl (hb hby dm3_7) rfl (tlt hc7_409).2.2.1 (by decide) (by decide)) ?_
      have hv410 := hv408.trans (if_pos hc7_409)
      show OGets p e below _ (s₁.setTop (mkF m 27 #[.val (.int p0), .val (.int p1), .val (.int p2), .val (.int p3), .val (.int p4), .val (.int p5)] []))
      exact J27 s₁ X0 e0 hv410
    · refine OGets.step (fun _ => XS.icmpNo X0.here hx rfl (hb hby dm3_7) rfl (flt hc7_409).2.2.1) ?_
      have hv411 := hv408.trans (if_neg hc7_409)
      show OGets p e below _ (s₁.setTop (mkF m 10 #[.val (.int p0), .val (.int p1), .val (.int p2), .val (.int p3), .val (.int p4), .val (.int p5)] []))
      refine OGets.step (fun _ => XS.iloadN X0.here hx rfl (hb hby dm3_10) rfl) ?_
      refine OGets.step (fun _ => XS.iload X0.here hx rfl (hb hby dm3_11) rfl) ?_
      refine OGets.step (fun _ => XS.isub X0.here hx rfl (hb hby dm3_13) rfl) ?_
      refine OGets.step (fun _ => XS.iloadN X0.here hx rfl (hb hby dm3_14) rfl) ?_
      obtain ⟨_, _, ⟨T412, L412, k412, n412⟩, -, X412, ⟨Lc412, hQ412, l412, y412, z412⟩, st412⟩ := Jvm.LawKit.callS X0 hx (y := (⟨"com/example/pelt/pelt/StackCountsPopPinLaw", "mod", "(II)I"⟩ : MethodName)) hown (mvT hZ (hw _ (List.mem_of_getElem? (i := 100) rfl))) (mvT hZ (hw _ (List.mem_of_getElem? (i := 101) rfl))) (mvT hZ (hw _ (List.mem_of_getElem? (i := 79) rfl))) (mvT hZ (hw _ (List.mem_of_getElem? (i := 102) rfl))) (by decide) (backOf (W := 0) (rm_mod l Z a0 hw [] (p0 - p4) p3 h0 n0  Z0 hnz) hZ (hw _ (List.mem_of_getElem? (i := 102) rfl)) (hw _ (List.mem_of_getElem? (i := 79) rfl)) (by decide) (by decide)) (g := (mkF m 15 #[.val (.int p0), .val (.int p1), .val (.int p2), .val (.int p3), .val (.int p4), .val (.int p5)] [(.int p3), (.int (p0 - p4))])) rfl (by rw [hml]; rfl) (argsL := [(.int (p0 - p4)), (.int p3)]) (rest := []) (lenOf pd_8 rfl) rfl (by show 2 * 0 + _ ≤ _; exact Nat.le_of_eq rfl) (hb hby dm3_15) (fun _ _ => ⟨rfl, e0, Nat.le_of_ble_eq_true rfl, Nat.le_of_ble_eq_true rfl⟩)
      dsimp only [Pt.U, Pt.locs, Pt.cells, Pt.slots] at X412 l412 y412 z412 st412 hQ412
      rw [l412, y412, z412] at X412
      obtain ⟨rfl, rfl, e412⟩ := hQ412
      have X412 : Stand p l e _ s m #[(.int p0), (.int p1), (.int p2), (.int p3), (.int p4), (.int p5)] below meth c T412 [] 0 0 := X412
      refine OGets.step st412 ?_
      refine OGets.step (fun _ => XS.iload X412.here hx rfl (hb hby dm3_18) rfl) ?_
      by_cases hc20_413 : (f_mod (p0 - p4) p3) < p5
      · refine OGets.step (fun _ => XS.icmpNo X412.here hx rfl (hb hby dm3_20) rfl (tlt hc20_413).2.1) ?_
        have hv414 := hv411.trans (if_pos hc20_413)
        show OGets p e below _ (T412.setTop (mkF m 23 #[.val (.int p0), .val (.int p1), .val (.int p2), .val (.int p3), .val (.int p4), .val (.int p5)] []))
        refine OGets.step (fun _ => XS.iconst X412.here hx rfl (hb hby dm3_23)) ?_
        refine OGets.step (fun _ => XS.goto X412.here hx rfl (pc0 := 24) (pc' := 28) rfl (hb hby dm3_24) (by decide) (by decide)) ?_
        refine OGets.retN X412 hx hlk (t := .boolean) Bd.returns (by simp) (hb hby dm3_28) (Nat.le_of_ble_eq_true rfl) (Nat.le_of_ble_eq_true rfl) ?_
        exact ⟨congrArg (fun z => some (Value.int z)) hv414.symm, rfl, e412⟩
      · refine OGets.step (fun _ => XS.icmpYes X412.here hx rfl (pc0 := 20) (pc' := 27) rfl (hb hby dm3_20) rfl (flt hc20_413).2.1 (by decide) (by decide)) ?_
        have hv415 := hv411.trans (if_neg hc20_413)
        show OGets p e below _ (T412.setTop (mkF m 27 #[.val (.int p0), .val (.int p1), .val (.int p2), .val (.int p3), .val (.int p4), .val (.int p5)] []))
        exact J27 T412 X412 e412 hv415
theorem own_of {x : Int32} {k : Nat} (h : x.toInt = (k : Int)) (hk : k < 2 ^ 31) : x = Int32.ofNat k := Int32.toInt_inj.mp (by rw [h]; exact (Int32.toInt_ofNat_small hk).symm)
theorem own_P (p0 : Int32) : 1 ≤ ((1 : Int32) + ((p0 &&& (2147483647 : Int32)) % (6 : Int32))).toInt ∧ ((1 : Int32) + ((p0 &&& (2147483647 : Int32)) % (6 : Int32))).toInt ≤ 6 := by
  have h1 := c_mask p0 2147483647 31 (by decide) (by decide)
  have h2 := (c_irem (p0 &&& 2147483647) 6 6 (by decide)).1 (by omega)
  have h3 := c_iadd 1 ((p0 &&& 2147483647) % 6)
  have h4 := rng32 ((1 : Int32) + ((p0 &&& (2147483647 : Int32)) % (6 : Int32)))
  simp only [Int32.reduceToInt] at h3
  omega
theorem own_nz {P : Int32} (h : 1 ≤ P.toInt ∧ P.toInt ≤ 6) : P ≠ (0 : Int32) := fun q => by
  rw [q] at h; exact absurd h.1 (by decide)
theorem own_D (P x y : Int32) (hP : 1 ≤ P.toInt ∧ P.toInt ≤ 6) : Dom P ((x &&& (255 : Int32)) % (5 : Int32)) ((((x.toUInt32 >>> ((8 : Int32) &&& 31).toUInt32).toInt32) &&& (255 : Int32)) % (5 : Int32)) ((y &&& (65535 : Int32)) % P) ((1 : Int32) + (((y.toUInt32 >>> ((16 : Int32) &&& 31).toUInt32).toInt32) % P)) := by
  have a1 := c_mask x 255 8 (by decide) (by decide)
  have a2 := (c_irem (x &&& 255) 5 5 (by decide)).1 (by omega)
  have b1 := c_mask ((x.toUInt32 >>> ((8 : Int32) &&& 31).toUInt32).toInt32) 255 8 (by decide) (by decide)
  have b2 := (c_irem (((x.toUInt32 >>> ((8 : Int32) &&& 31).toUInt32).toInt32) &&& 255) 5 5 (by decide)).1 (by omega)
  have d1 := c_mask y 65535 16 (by decide) (by decide)
  have d2 := (c_iremV (y &&& 65535) P).1 (by omega) (by omega)
  have e1 := c_iushr y 16 16 (by decide) (by decide)
  have e0 := rng32 y
  have e2 := (c_iremV ((y.toUInt32 >>> ((16 : Int32) &&& 31).toUInt32).toInt32) P).1 (by omega) (by omega)
  have e3 := c_iadd 1 (((y.toUInt32 >>> ((16 : Int32) &&& 31).toUInt32).toInt32) % P)
  have e4 := rng32 ((1 : Int32) + ((y.toUInt32 >>> ((16 : Int32) &&& 31).toUInt32).toInt32) % P)
  simp only [Int32.reduceToInt] at e3
  generalize ((x &&& 255) % (5 : Int32)) = q1 at *
  generalize ((((x.toUInt32 >>> ((8 : Int32) &&& 31).toUInt32).toInt32) &&& 255) % (5 : Int32)) = q2 at *
  generalize ((y &&& 65535) % P) = q3 at *
  generalize ((1 : Int32) + (((y.toUInt32 >>> ((16 : Int32) &&& 31).toUInt32).toInt32) % P)) = q4 at *
  refine ⟨⟨(P.toInt - 1).toNat, by omega⟩, ⟨q1.toInt.toNat, by omega⟩, ⟨q2.toInt.toNat, by omega⟩, ⟨q3.toInt.toNat, by omega⟩, ⟨(q4.toInt - 1).toNat, by omega⟩, ?_, ?_, own_of ?_ ?_, own_of ?_ ?_, own_of ?_ ?_, own_of ?_ ?_, own_of ?_ ?_⟩ <;> (dsimp only; omega)
def eF (n per l1 m1 ph1 w1 l2 m2 ph2 w2 : Int32) : Int32 := if f_held n l1 m1 per ph1 w1 = 0 then (if f_held n l2 m2 per ph2 w2 = 0 then 0 else 1) else 1
/-! the plain law -/
def adL (C D : List Int32) : List Int32 := List.zipWith (· + ·) C D
theorem ad_get {C D : List Int32} (h : C.length = D.length) (k : Nat) : (adL C D)[k]? = (C[k]?).bind fun x => (D[k]?).map fun y => x + y := by
  unfold adL
  rw [List.getElem?_zipWith]
  cases hC : C[k]? <;> cases hD : D[k]? <;> rfl
theorem ad_len {C D : List Int32} (h : C.length = D.length) : (adL C D).length = C.length := by unfold adL; rw [List.length_zipWith, h, Nat.min_self]
theorem gi_get (C : List Int32) (j : Int32) : gi C j = (C[j.toNatClampNeg]?).getD 0 := List.getD_eq_getElem?_getD
theorem gi_ad {C D : List Int32} (h : C.length = D.length) (j : Int32) : gi (adL C D) j = gi C j + gi D j := by
  rw [gi_get, gi_get, gi_get, ad_get h]
  generalize j.toNatClampNeg = k
  by_cases hk : k < C.length
  · rw [List.getElem?_eq_getElem hk, List.getElem?_eq_getElem (h ▸ hk)]; rfl
  · rw [List.getElem?_eq_none (Nat.le_of_not_lt hk), List.getElem?_eq_none (h ▸ Nat.le_of_not_lt hk)]; rfl
theorem si_ad {C D : List Int32} (h : C.length = D.length) (j x y : Int32) : si (adL C D) j (x + y) = adL (si C j x) (si D j y) := by
  refine List.ext_getElem? fun k => ?_
  rw [ad_get (by rw [si_len, si_len]; exact h)]
  unfold si
  rw [List.getElem?_set, List.getElem?_set, List.getElem?_set, ad_len h, ad_get h]
  by_cases hk : j.toNatClampNeg = k
  · rw [if_pos hk, if_pos hk, if_pos hk]
    by_cases hl : k < C.length
    · have hl' : k < D.length := by omega
      rw [hk, if_pos hl, if_pos hl, if_pos hl']; rfl
    · have hl' : ¬ k < D.length := by omega
      rw [hk, if_neg hl, if_neg hl, if_neg hl']; rfl
  · rw [if_neg hk, if_neg hk, if_neg hk]
theorem si_self (C : List Int32) (j : Int32) : si C j (gi C j) = C := by
  refine List.ext_getElem? fun k => ?_
  unfold si
  rw [List.getElem?_set, gi_get]
  by_cases hk : j.toNatClampNeg = k
  · rw [if_pos hk, hk]
    by_cases hl : k < C.length
    · rw [if_pos hl, List.getElem?_eq_getElem hl]; rfl
    · rw [if_neg hl, List.getElem?_eq_none (Nat.le_of_not_lt hl)]
  · rw [if_neg hk]
def inc (C : List Int32) (j x : Int32) : List Int32 := si C j (gi C j + x)
theorem inc_len (C : List Int32) (j x : Int32) : (inc C j x).length = C.length := si_len _ _ _
theorem inc_ad {C D : List Int32} (h : C.length = D.length) (j x : Int32) : inc (adL C D) j x = adL C (inc D j x) := by
  unfold inc
  rw [gi_ad h, Int32.add_assoc, si_ad h, si_self]
theorem rg_inc (C : List Int32) (lo hi : Int32) : rgF C lo hi = if (0 : Int32) < lo then inc (inc C hi 1) (lo - 1) (-1) else inc C hi 1 := by
  unfold rgF inc
  simp only [Int32.sub_eq_add_neg]
theorem rg_ad {C D : List Int32} (h : C.length = D.length) (lo hi : Int32) : rgF (adL C D) lo hi = adL C (rgF D lo hi) := by
  rw [rg_inc, rg_inc]
  split
  · rw [inc_ad h, inc_ad (by rw [inc_len]; exact h)]
  · rw [inc_ad h]
theorem mk_inc (B : List Int32) (per top cnt mk : Int32) : mkV B per top cnt mk = if blF per top cnt < 0 then inc B top mk else inc (inc B top mk) (blF per top cnt).toInt32 (-mk) := by
  unfold mkV inc
  simp only [Int32.sub_eq_add_neg]
theorem mk_ad {C D : List Int32} (h : C.length = D.length) (per top cnt mk : Int32) : mkV (adL C D) per top cnt mk = adL C (mkV D per top cnt mk) := by
  rw [mk_inc, mk_inc]
  split
  · rw [inc_ad h]
  · rw [inc_ad h, inc_ad (by rw [inc_len]; exact h)]
theorem bk_ad {C D : List Int32} (h : C.length = D.length) (per wd fst cnt : Int32) : bkF (adL C D) per wd fst cnt = adL C (bkF D per wd fst cnt) := by
  unfold bkF
  rw [mk_ad h, mk_ad (by rw [mkV_len]; exact h)]
theorem s1_ad {C D : List Int32} (h : C.length = D.length) (per lo hi ph wd : Int32) : s1F per lo hi ph wd (adL C D) = adL C (s1F per lo hi ph wd D) := by
  unfold s1F
  (repeat' split) <;> first | rfl | rw [rg_ad h]
theorem s2_ad {C D : List Int32} (h : C.length = D.length) (per lo hi ph wd : Int32) : s2N per lo hi ph wd (adL C D) = adL C (s2N per lo hi ph wd D) := by
  unfold s2N
  (repeat' split) <;> first | rfl | rw [rg_ad h]
theorem s3_ad {C D : List Int32} (h : C.length = D.length) (per lo hi ph wd : Int32) : s3F per lo hi ph wd (adL C D) = adL C (s3F per lo hi ph wd D) := by
  unfold s3F
  (repeat' split) <;> first | rfl | rw [rg_ad h]
theorem spN_ad {C D : List Int32} (h : C.length = D.length) (per lo hi ph wd : Int32) : spN per lo hi ph wd (adL C D) = adL C (spN per lo hi ph wd D) := by
  unfold spN
  split
  · rfl
  · split
    · rw [rg_ad h]
    · split
      · rw [s1_ad h, s2_ad (by rw [s1F_len]; exact h), s3_ad (by rw [s2N_len, s1F_len]; exact h)]
      · rw [rg_ad h]
theorem spB_ad {C D A B : List Int32} (h : C.length = D.length) (h' : A.length = B.length) (per lo hi ph wd : Int32) : spB per lo hi ph wd (adL C D) (adL A B) = (adL C (spB per lo hi ph wd D B).1, adL A (spB per lo hi ph wd D B).2) := by
  unfold spB
  split
  · rfl
  · split
    · rw [rg_ad h]
    · split
      · unfold t3B s2B
        rw [s1_ad h]
        split
        · rw [bk_ad h', s3_ad (by rw [s1F_len]; exact h)]
        · rw [s2_ad (by rw [s1F_len]; exact h), s3_ad (by rw [s2N_len, s1F_len]; exact h)]
      · rw [rg_ad h]
theorem own_swap (a b c d : Int32) : (a + b) + (c + d) = (a + c) + (b + d) := by
  rw [Int32.add_assoc, Int32.add_assoc, ← Int32.add_assoc b c d, Int32.add_comm b c, Int32.add_assoc c b d]
theorem poC_ad {C D : List Int32} (h : C.length = D.length) (t : Int32) : poC (adL C D) t = adL (poC C t) (poC D t) := by
  unfold poC
  split
  · rw [gi_ad h, gi_ad h, own_swap, si_ad h]
  · rfl
theorem poA_ad {C D A B : List Int32} (h : C.length = D.length) (h' : A.length = B.length) (t : Int32) : poA (adL C D) (adL A B) t = adL (poA C A t) (poA D B t) := by
  unfold poA
  rw [gi_ad h, gi_ad h', own_swap, si_ad h]
theorem poB_ad {A B : List Int32} (h : A.length = B.length) (per t : Int32) : poB (adL A B) per t = adL (poB A per t) (poB B per t) := by
  unfold poB
  split
  · rfl
  · rw [gi_ad h, gi_ad h, own_swap, si_ad h]
theorem ad_zero (C : List Int32) (h : C.length = 5) : adL C (List.replicate 5 (0 : Int32)) = C := by
  refine List.ext_getElem? fun k => ?_
  rw [ad_get (by rw [h, List.length_replicate])]
  by_cases hk : k < C.length
  · rw [List.getElem?_eq_getElem hk, List.getElem?_replicate, if_pos (h ▸ hk)]
    simp
  · rw [List.getElem?_eq_none (Nat.le_of_not_lt hk)]; rfl
/-- what the five pops add up to, where no two blocks fit -/
def vN (n : Nat) (C : List Int32) : Int32 := match n with
  | 4 => gi (poC C 4) 4
  | 3 => gi (poC (poC C 4) 3) 3
  | 2 => gi (poC (poC (poC C 4) 3) 2) 2
  | 1 => gi (poC (poC (poC (poC C 4) 3) 2) 1) 1
  | _ => gi (poC (poC (poC (poC (poC C 4) 3) 2) 1) 0) 0
theorem vN_ad {C D : List Int32} (h : C.length = D.length) (n : Nat) : vN n (adL C D) = vN n C + vN n D := by
  unfold vN
  have l1 : (poC C 4).length = (poC D 4).length := by simp only [poC_len]; exact h
  have l2 : (poC (poC C 4) 3).length = (poC (poC D 4) 3).length := by simp only [poC_len]; exact h
  have l3 : (poC (poC (poC C 4) 3) 2).length = (poC (poC (poC D 4) 3) 2).length := by simp only [poC_len]; exact h
  have l4 : (poC (poC (poC (poC C 4) 3) 2) 1).length = (poC (poC (poC (poC D 4) 3) 2) 1).length := by simp only [poC_len]; exact h
  have l5 : (poC (poC (poC (poC (poC C 4) 3) 2) 1) 0).length = (poC (poC (poC (poC (poC D 4) 3) 2) 1) 0).length := by simp only [poC_len]; exact h
  split
  · rw [poC_ad h, gi_ad l1]
  · rw [poC_ad h, poC_ad l1, gi_ad l2]
  · rw [poC_ad h, poC_ad l1, poC_ad l2, gi_ad l3]
  · rw [poC_ad h, poC_ad l1, poC_ad l2, poC_ad l3, gi_ad l4]
  · rw [poC_ad h, poC_ad l1, poC_ad l2, poC_ad l3, poC_ad l4, gi_ad l5]
/-- one pop of the pair -/
def pp (per t : Int32) (q : List Int32 × List Int32) : List Int32 × List Int32 := (poC (poA q.1 q.2 t) t, poB q.2 per t)
def vB (per : Int32) (n : Nat) (q : List Int32 × List Int32) : Int32 := match n with
  | 4 => gi (pp per 4 q).1 4
  | 3 => gi (pp per 3 (pp per 4 q)).1 3
  | 2 => gi (pp per 2 (pp per 3 (pp per 4 q))).1 2
  | 1 => gi (pp per 1 (pp per 2 (pp per 3 (pp per 4 q)))).1 1
  | _ => gi (pp per 0 (pp per 1 (pp per 2 (pp per 3 (pp per 4 q))))).1 0
def adP (q r : List Int32 × List Int32) : List Int32 × List Int32 := (adL q.1 r.1, adL q.2 r.2)
def same (q r : List Int32 × List Int32) : Prop := q.1.length = r.1.length ∧ q.2.length = r.2.length
theorem pp_same {q r : List Int32 × List Int32} (h : same q r) (per t : Int32) : same (pp per t q) (pp per t r) := ⟨by show (poC _ _).length = (poC _ _).length; rw [poC_len, poC_len, poA_len, poA_len]; exact h.1, by show (poB _ _ _).length = (poB _ _ _).length; rw [poB_len, poB_len]; exact h.2⟩
theorem pp_ad {q r : List Int32 × List Int32} (h : same q r) (per t : Int32) : pp per t (adP q r) = adP (pp per t q) (pp per t r) := by
  show (poC (poA (adL q.1 r.1) (adL q.2 r.2) t) t, poB (adL q.2 r.2) per t) = _
  rw [poA_ad h.1 h.2, poC_ad (by rw [poA_len, poA_len]; exact h.1), poB_ad h.2]
  rfl
theorem vB_ad {q r : List Int32 × List Int32} (h : same q r) (per : Int32) (n : Nat) : vB per n (adP q r) = vB per n q + vB per n r := by
  have l1 := pp_same h per 4
  have l2 := pp_same l1 per 3
  have l3 := pp_same l2 per 2
  have l4 := pp_same l3 per 1
  have l5 := pp_same l4 per 0
  unfold vB
  split
  · rw [pp_ad h]; exact gi_ad l1.1 _
  · rw [pp_ad h, pp_ad l1]; exact gi_ad l2.1 _
  · rw [pp_ad h, pp_ad l1, pp_ad l2]; exact gi_ad l3.1 _
  · rw [pp_ad h, pp_ad l1, pp_ad l2, pp_ad l3]; exact gi_ad l4.1 _
  · rw [pp_ad h, pp_ad l1, pp_ad l2, pp_ad l3, pp_ad l4]; exact gi_ad l5.1 _
def zz : List Int32 := List.replicate 5 (0 : Int32)
def OneN (per lo hi ph wd : Int32) : Prop := ¬ ((1 : Int32) < per ∧ per < (5 : Int32)) → ∀ n : Fin 5, vN n.1 (spN per lo hi ph wd zz) = f_held (Int32.ofNat n.1) lo hi per ph wd
instance (per lo hi ph wd : Int32) : Decidable (OneN per lo hi ph wd) := by unfold OneN; exact inferInstance
def OneB (per lo hi ph wd : Int32) : Prop := ((1 : Int32) < per ∧ per < (5 : Int32)) → ∀ n : Fin 5, vB per n.1 (spB per lo hi ph wd zz zz) = f_held (Int32.ofNat n.1) lo hi per ph wd
instance (per lo hi ph wd : Int32) : Decidable (OneB per lo hi ph wd) := by unfold OneB; exact inferInstance
set_option maxRecDepth 65536 in
theorem own_oneN : ∀ (a : Fin 6) (b c : Fin 5) (d e : Fin 6), d.1 ≤ a.1 → e.1 ≤ a.1 → OneN (Int32.ofNat (a.1 + 1)) (Int32.ofNat b.1) (Int32.ofNat c.1) (Int32.ofNat d.1) (Int32.ofNat (e.1 + 1)) := by decide +kernel
set_option maxRecDepth 65536 in
theorem own_oneB : ∀ (a : Fin 6) (b c : Fin 5) (d e : Fin 6), d.1 ≤ a.1 → e.1 ≤ a.1 → OneB (Int32.ofNat (a.1 + 1)) (Int32.ofNat b.1) (Int32.ofNat c.1) (Int32.ofNat d.1) (Int32.ofNat (e.1 + 1)) := by decide +kernel
theorem held_bit (n lo hi per ph wd : Int32) : f_held n lo hi per ph wd = 0 ∨ f_held n lo hi per ph wd = 1 := by
  unfold f_held f_held_27
  (repeat' split) <;> first | exact Or.inl rfl | exact Or.inr rfl
theorem own_or (a b : Int32) (ha : a = 0 ∨ a = 1) (hb : b = 0 ∨ b = 1) : (if (0 : Int32) < a + b then (1 : Int32) else 0) = if a = 0 then (if b = 0 then 0 else 1) else 1 := by
  rcases ha with rfl | rfl <;> rcases hb with rfl | rfl <;> decide
theorem own_valN (n : Fin 5) {per l1 m1 ph1 w1 l2 m2 ph2 w2 : Int32} (D1 : Dom per l1 m1 ph1 w1) (D2 : Dom per l2 m2 ph2 w2) (hN : ¬ ((1 : Int32) < per ∧ per < (5 : Int32))) : (if (0 : Int32) < vN n.1 (spN per l2 m2 ph2 w2 (spN per l1 m1 ph1 w1 zz)) then (1 : Int32) else 0) = eF (Int32.ofNat n.1) per l1 m1 ph1 w1 l2 m2 ph2 w2 := by
  have hl : (spN per l1 m1 ph1 w1 zz).length = 5 := by rw [spN_len]; rfl
  have e1 : spN per l2 m2 ph2 w2 (spN per l1 m1 ph1 w1 zz) = adL (spN per l1 m1 ph1 w1 zz) (spN per l2 m2 ph2 w2 zz) := by
    have q := spN_ad (C := spN per l1 m1 ph1 w1 zz) (D := zz) (by rw [hl]; rfl) per l2 m2 ph2 w2
    rw [show adL (spN per l1 m1 ph1 w1 zz) zz = spN per l1 m1 ph1 w1 zz from ad_zero _ hl] at q
    exact q
  rw [e1, vN_ad (by rw [spN_len, spN_len]), own_dom own_oneN D1 hN n, own_dom own_oneN D2 hN n]
  exact own_or _ _ (held_bit ..) (held_bit ..)
theorem own_valB (n : Fin 5) {per l1 m1 ph1 w1 l2 m2 ph2 w2 : Int32} (D1 : Dom per l1 m1 ph1 w1) (D2 : Dom per l2 m2 ph2 w2) (hB : (1 : Int32) < per ∧ per < (5 : Int32)) : (if (0 : Int32) < vB per n.1 (spB per l2 m2 ph2 w2 (spB per l1 m1 ph1 w1 zz zz).1 (spB per l1 m1 ph1 w1 zz zz).2) then (1 : Int32) else 0) = eF (Int32.ofNat n.1) per l1 m1 ph1 w1 l2 m2 ph2 w2 := by
  have hl : (spB per l1 m1 ph1 w1 zz zz).1.length = 5 := by rw [spB_len1]; rfl
  have hl2 : (spB per l1 m1 ph1 w1 zz zz).2.length = 5 := by rw [spB_len2]; rfl
  have e1 : spB per l2 m2 ph2 w2 (spB per l1 m1 ph1 w1 zz zz).1 (spB per l1 m1 ph1 w1 zz zz).2 = adP (spB per l1 m1 ph1 w1 zz zz) (spB per l2 m2 ph2 w2 zz zz) := by
    have q := spB_ad (C := (spB per l1 m1 ph1 w1 zz zz).1) (D := zz) (A := (spB per l1 m1 ph1 w1 zz zz).2) (B := zz) (by rw [hl]; rfl) (by rw [hl2]; rfl) per l2 m2 ph2 w2
    rw [show adL (spB per l1 m1 ph1 w1 zz zz).1 zz = (spB per l1 m1 ph1 w1 zz zz).1 from ad_zero _ hl, show adL (spB per l1 m1 ph1 w1 zz zz).2 zz = (spB per l1 m1 ph1 w1 zz zz).2 from ad_zero _ hl2] at q
    exact q
  rw [e1, vB_ad ⟨by rw [spB_len1, spB_len1], by rw [spB_len2, spB_len2]⟩, own_dom own_oneB D1 hB n, own_dom own_oneB D2 hB n]
  exact own_or _ _ (held_bit ..) (held_bit ..)
theorem pd_13 : parseMethodDescriptor "(II)V" = some ⟨[.int, .int], none⟩ := by decide +kernel
theorem pd_14 : parseMethodDescriptor "(Z)V" = some ⟨[.boolean], none⟩ := by decide +kernel
theorem pd_15 : parseMethodDescriptor "(IIIII)V" = some ⟨[.int, .int, .int, .int, .int], none⟩ := by decide +kernel
theorem pd_16 : parseMethodDescriptor "(Lcom/example/pelt/pelt/Strand;)V" = some ⟨[(.object "com/example/pelt/pelt/Strand")], none⟩ := by decide +kernel
theorem pd_17 : parseMethodDescriptor "()Z" = some ⟨[], some .boolean⟩ := by decide +kernel
theorem pd_18 : parseMethodDescriptor "(IIIIII)Z" = some ⟨[.int, .int, .int, .int, .int, .int], some .boolean⟩ := by decide +kernel
theorem ef_law (m : MethodId) (x0 : Int32) (x1 : Int32) (x2 : Int32) (x3 : Int32) (x4 : Int32) (x5 : Int32) : entryFrame m #[(.int x0), (.int x1), (.int x2), (.int x3), (.int x4), (.int x5)] maxLocals = mkF m 0 #[.val (.int x0), .val (.int x1), .val (.int x2), .val (.int x3), .val (.int x4), .val (.int x5), .unset, .unset, .unset, .unset, .unset, .unset, .unset, .unset, .unset, .unset, .unset, .unset, .unset, .unset, .unset, .unset, .unset, .unset, .unset, .unset] [] := by first | (simp [entryFrame, mkF, argsToLocals, Value.category, maxLocals]; done) | rfl
def Q_law (Z : State) (p0 : Int32) (p1 : Int32) (p2 : Int32) (p3 : Int32) (p4 : Int32) (p5 : Int32) (h0 : Heap) (n0 : Nat) (v : Option Value) (h : Heap) (L : List Loc) : Prop := v = some (.int 1) ∧ Fr n0 L
set_option maxRecDepth 65536 in
set_option maxHeartbeats 40000000 in
theorem rm_law (l : Launch) (Z : State) (a0 : Array Value) (hw : ∀ d ∈ tables_1, d.before a0 Z = true) (ws : List Jvm.Cond) (p0 : Int32) (p1 : Int32) (p2 : Int32) (p3 : Int32) (p4 : Int32) (p5 : Int32) (h0 : Heap) (n0 : Nat) (Z0 : n0 ≤ h0.size) (V0 : OView Z n0 h0 ([])) :
    MetFree l x (head1 (Jvm.Cond.code x code maxLocals ret :: ws) room_1) (fun a_ U => a_ = #[(.int p0), (.int p1), (.int p2), (.int p3), (.int p4), (.int p5)] ∧ Z.Warmed39 U.vm ∧ U.heap = h0) (fun _ _ _ _ _ => True) (fun _ U o U' => ∃ v L, o = .returned v ∧ Q_law Z p0 p1 p2 p3 p4 p5 h0 n0 v U'.heap L ∧ FrameEnd U o U' L 32 192) := by
  refine MetFree.of_bodySF (plainFor_of_name pn_12) hisR ?_
  intro p e s m args below meth c s₁ Bd hml0 hP hK
  obtain ⟨rfl, hZ, hh⟩ := hP
  have hx := Bd.exec
  have hby := Bd.bytes
  have hlk : meth.locks = false := Bd.notSynchronized
  have hml : c.maxLocals = 26 := hml0
  have hown : s.vm.findClass "com/example/pelt/pelt/StackCountsPopPinLaw" = some m.cls := findClass_of_methodNamed Bd.named
  have hnm := (name_of_methodNamed Bd.named Bd.method).1
  have X0 : Stand p l e room_1 s m #[(.int p0), (.int p1), (.int p2), (.int p3), (.int p4), (.int p5)] below meth c s₁ [] 0 0 := Stand.of_body Bd
  have e0 : s₁.heap = h0 := by rw [← hh, Bd.state]; rfl
  have N0 := Fr.nil n0
  show OGets p e below (OLeaves s (Q_law Z p0 p1 p2 p3 p4 p5 h0 n0 ) 32 192) _
  refine OGets.enter (ef_law m p0 p1 p2 p3 p4 p5) ?_
  show OGets p e below _ (s₁.setTop (mkF m 0 #[.val (.int p0), .val (.int p1), .val (.int p2), .val (.int p3), .val (.int p4), .val (.int p5), .unset, .unset, .unset, .unset, .unset, .unset, .unset, .unset, .unset, .unset, .unset, .unset, .unset, .unset, .unset, .unset, .unset, .unset, .unset, .unset] []))
  refine OGets.step (fun _ => XS.iconst X0.here hx rfl (hb hby at_0)) ?_
  refine OGets.step (fun _ => XS.iloadN X0.here hx rfl (hb hby at_1) rfl) ?_
  refine OGets.step (fun _ => X0.ldcInt hx hown (mvT hZ (hw _ (List.mem_of_getElem? (i := 0) rfl))) (g := (mkF m 2 #[.val (.int p0), .val (.int p1), .val (.int p2), .val (.int p3), .val (.int p4), .val (.int p5), .unset, .unset, .unset, .unset, .unset, .unset, .unset, .unset, .unset, .unset, .unset, .unset, .unset, .unset, .unset, .unset, .unset, .unset, .unset, .unset] [(.int p0), (.int 1)])) rfl (hb hby at_2) _) ?_
  refine OGets.step (fun _ => XS.iand X0.here hx rfl (hb hby at_4) rfl) ?_
  refine OGets.step (fun _ => XS.bipush X0.here hx rfl (hb hby at_5)) ?_
  refine OGets.step (fun _ => iremM (g := (mkF m 7 #[.val (.int p0), .val (.int p1), .val (.int p2), .val (.int p3), .val (.int p4), .val (.int p5), .unset, .unset, .unset, .unset, .unset, .unset, .unset, .unset, .unset, .unset, .unset, .unset, .unset, .unset, .unset, .unset, .unset, .unset, .unset, .unset] [(.int 6), (.int (p0 &&& (2147483647 : Int32))), (.int 1)])) X0 hx rfl (hb hby at_7) rfl (by decide)) ?_
  refine OGets.step (fun _ => XS.iadd X0.here hx rfl (hb hby at_8) rfl) ?_
  show OGets p e below _ (s₁.setTop (mkF m 9 #[.val (.int p0), .val (.int p1), .val (.int p2), .val (.int p3), .val (.int p4), .val (.int p5), .unset, .unset, .unset, .unset, .unset, .unset, .unset, .unset, .unset, .unset, .unset, .unset, .unset, .unset, .unset, .unset, .unset, .unset, .unset, .unset] [(.int ((1 : Int32) + ((p0 &&& (2147483647 : Int32)) % (6 : Int32))))]))
  refine OGets.step (fun _ => XS.istore X0.here hx rfl (hb hby at_9) rfl (l' := #[.val (.int p0), .val (.int p1), .val (.int p2), .val (.int p3), .val (.int p4), .val (.int p5), .val (.int ((1 : Int32) + ((p0 &&& (2147483647 : Int32)) % (6 : Int32)))), .unset, .unset, .unset, .unset, .unset, .unset, .unset, .unset, .unset, .unset, .unset, .unset, .unset, .unset, .unset, .unset, .unset, .unset, .unset]) rfl) ?_
  refine OGets.step (fun _ => XS.iloadN X0.here hx rfl (hb hby at_11) rfl) ?_
  refine OGets.step (fun _ => XS.sipush X0.here hx rfl (hb hby at_12)) ?_
  refine OGets.step (fun _ => XS.iand X0.here hx rfl (hb hby at_15) rfl) ?_
  refine OGets.step (fun _ => XS.iconst X0.here hx rfl (hb hby at_16)) ?_
  refine OGets.step (fun _ => iremM (g := (mkF m 17 #[.val (.int p0), .val (.int p1), .val (.int p2), .val (.int p3), .val (.int p4), .val (.int p5), .val (.int ((1 : Int32) + ((p0 &&& (2147483647 : Int32)) % (6 : Int32)))), .unset, .unset, .unset, .unset, .unset, .unset, .unset, .unset, .unset, .unset, .unset, .unset, .unset, .unset, .unset, .unset, .unset, .unset, .unset] [(.int 5), (.int (p1 &&& (255 : Int32)))])) X0 hx rfl (hb hby at_17) rfl (by decide)) ?_
  refine OGets.step (fun _ => XS.istore X0.here hx rfl (hb hby at_18) rfl (l' := #[.val (.int p0), .val (.int p1), .val (.int p2), .val (.int p3), .val (.int p4), .val (.int p5), .val (.int ((1 : Int32) + ((p0 &&& (2147483647 : Int32)) % (6 : Int32)))), .val (.int ((p1 &&& (255 : Int32)) % (5 : Int32))), .unset, .unset, .unset, .unset, .unset, .unset, .unset, .unset, .unset, .unset, .unset, .unset, .unset, .unset, .unset, .unset, .unset, .unset]) rfl) ?_
  show OGets p e below _ (s₁.setTop (mkF m 20 #[.val (.int p0), .val (.int p1), .val (.int p2), .val (.int p3), .val (.int p4), .val (.int p5), .val (.int ((1 : Int32) + ((p0 &&& (2147483647 : Int32)) % (6 : Int32)))), .val (.int ((p1 &&& (255 : Int32)) % (5 : Int32))), .unset, .unset, .unset, .unset, .unset, .unset, .unset, .unset, .unset, .unset, .unset, .unset, .unset, .unset, .unset, .unset, .unset, .unset] []))
  refine OGets.step (fun _ => XS.iloadN X0.here hx rfl (hb hby at_20) rfl) ?_
  refine OGets.step (fun _ => XS.bipush X0.here hx rfl (hb hby at_21)) ?_
  refine OGets.step (fun _ => XS.iushr X0.here hx rfl (hb hby at_23) rfl) ?_
  refine OGets.step (fun _ => XS.sipush X0.here hx rfl (hb hby at_24)) ?_
  refine OGets.step (fun _ => XS.iand X0.here hx rfl (hb hby at_27) rfl) ?_
  refine OGets.step (fun _ => XS.iconst X0.here hx rfl (hb hby at_28)) ?_
  refine OGets.step (fun _ => iremM (g := (mkF m 29 #[.val (.int p0), .val (.int p1), .val (.int p2), .val (.int p3), .val (.int p4), .val (.int p5), .val (.int ((1 : Int32) + ((p0 &&& (2147483647 : Int32)) % (6 : Int32)))), .val (.int ((p1 &&& (255 : Int32)) % (5 : Int32))), .unset, .unset, .unset, .unset, .unset, .unset, .unset, .unset, .unset, .unset, .unset, .unset, .unset, .unset, .unset, .unset, .unset, .unset] [(.int 5), (.int (((p1.toUInt32 >>> ((8 : Int32) &&& 31).toUInt32).toInt32) &&& (255 : Int32)))])) X0 hx rfl (hb hby at_29) rfl (by decide)) ?_
  show OGets p e below _ (s₁.setTop (mkF m 30 #[.val (.int p0), .val (.int p1), .val (.int p2), .val (.int p3), .val (.int p4), .val (.int p5), .val (.int ((1 : Int32) + ((p0 &&& (2147483647 : Int32)) % (6 : Int32)))), .val (.int ((p1 &&& (255 : Int32)) % (5 : Int32))), .unset, .unset, .unset, .unset, .unset, .unset, .unset, .unset, .unset, .unset, .unset, .unset, .unset, .unset, .unset, .unset, .unset, .unset] [(.int ((((p1.toUInt32 >>> ((8 : Int32) &&& 31).toUInt32).toInt32) &&& (255 : Int32)) % (5 : Int32)))]))
  refine OGets.step (fun _ => XS.istore X0.here hx rfl (hb hby at_30) rfl (l' := #[.val (.int p0), .val (.int p1), .val (.int p2), .val (.int p3), .val (.int p4), .val (.int p5), .val (.int ((1 : Int32) + ((p0 &&& (2147483647 : Int32)) % (6 : Int32)))), .val (.int ((p1 &&& (255 : Int32)) % (5 : Int32))), .val (.int ((((p1.toUInt32 >>> ((8 : Int32) &&& 31).toUInt32).toInt32) &&& (255 : Int32)) % (5 : Int32))), .unset, .unset, .unset, .unset, .unset, .unset, .unset, .unset, .unset, .unset, .unset, .unset, .unset, .unset, .unset, .unset, .unset]) rfl) ?_
  refine OGets.step (fun _ => XS.iloadN X0.here hx rfl (hb hby at_32) rfl) ?_
  refine OGets.step (fun _ => X0.ldcInt hx hown (mvT hZ (hw _ (List.mem_of_getElem? (i := 1) rfl))) (g := (mkF m 33 #[.val (.int p0), .val (.int p1), .val (.int p2), .val (.int p3), .val (.int p4), .val (.int p5), .val (.int ((1 : Int32) + ((p0 &&& (2147483647 : Int32)) % (6 : Int32)))), .val (.int ((p1 &&& (255 : Int32)) % (5 : Int32))), .val (.int ((((p1.toUInt32 >>> ((8 : Int32) &&& 31).toUInt32).toInt32) &&& (255 : Int32)) % (5 : Int32))), .unset, .unset, .unset, .unset, .unset, .unset, .unset, .unset, .unset, .unset, .unset, .unset, .unset, .unset, .unset, .unset, .unset] [(.int p2)])) rfl (hb hby at_33) _) ?_
  refine OGets.step (fun _ => XS.iand X0.here hx rfl (hb hby at_35) rfl) ?_
  refine OGets.step (fun _ => XS.iload X0.here hx rfl (hb hby at_36) rfl) ?_
  refine OGets.step (fun _ => iremM (g := (mkF m 38 #[.val (.int p0), .val (.int p1), .val (.int p2), .val (.int p3), .val (.int p4), .val (.int p5), .val (.int ((1 : Int32) + ((p0 &&& (2147483647 : Int32)) % (6 : Int32)))), .val (.int ((p1 &&& (255 : Int32)) % (5 : Int32))), .val (.int ((((p1.toUInt32 >>> ((8 : Int32) &&& 31).toUInt32).toInt32) &&& (255 : Int32)) % (5 : Int32))), .unset, .unset, .unset, .unset, .unset, .unset, .unset, .unset, .unset, .unset, .unset, .unset, .unset, .unset, .unset, .unset, .unset] [(.int ((1 : Int32) + ((p0 &&& (2147483647 : Int32)) % (6 : Int32)))), (.int (p2 &&& (65535 : Int32)))])) X0 hx rfl (hb hby at_38) rfl (own_nz (own_P p0))) ?_
  refine OGets.step (fun _ => XS.istore X0.here hx rfl (hb hby at_39) rfl (l' := #[.val (.int p0), .val (.int p1), .val (.int p2), .val (.int p3), .val (.int p4), .val (.int p5), .val (.int ((1 : Int32) + ((p0 &&& (2147483647 : Int32)) % (6 : Int32)))), .val (.int ((p1 &&& (255 : Int32)) % (5 : Int32))), .val (.int ((((p1.toUInt32 >>> ((8 : Int32) &&& 31).toUInt32).toInt32) &&& (255 : Int32)) % (5 : Int32))), .val (.int ((p2 &&& (65535 : Int32)) % ((1 : Int32) + ((p0 &&& (2147483647 : Int32)) % (6 : Int32))))), .unset, .unset, .unset, .unset, .unset, .unset, .unset, .unset, .unset, .unset, .unset, .unset, .unset, .unset, .unset, .unset]) rfl) ?_
  show OGets p e below _ (s₁.setTop (mkF m 41 #[.val (.int p0), .val (.int p1), .val (.int p2), .val (.int p3), .val (.int p4), .val (.int p5), .val (.int ((1 : Int32) + ((p0 &&& (2147483647 : Int32)) % (6 : Int32)))), .val (.int ((p1 &&& (255 : Int32)) % (5 : Int32))), .val (.int ((((p1.toUInt32 >>> ((8 : Int32) &&& 31).toUInt32).toInt32) &&& (255 : Int32)) % (5 : Int32))), .val (.int ((p2 &&& (65535 : Int32)) % ((1 : Int32) + ((p0 &&& (2147483647 : Int32)) % (6 : Int32))))), .unset, .unset, .unset, .unset, .unset, .unset, .unset, .unset, .unset, .unset, .unset, .unset, .unset, .unset, .unset, .unset] []))
  refine OGets.step (fun _ => XS.iconst X0.here hx rfl (hb hby at_41)) ?_
  refine OGets.step (fun _ => XS.iloadN X0.here hx rfl (hb hby at_42) rfl) ?_
  refine OGets.step (fun _ => XS.bipush X0.here hx rfl (hb hby at_43)) ?_
  refine OGets.step (fun _ => XS.iushr X0.here hx rfl (hb hby at_45) rfl) ?_
  refine OGets.step (fun _ => XS.iload X0.here hx rfl (hb hby at_46) rfl) ?_
  refine OGets.step (fun _ => iremM (g := (mkF m 48 #[.val (.int p0), .val (.int p1), .val (.int p2), .val (.int p3), .val (.int p4), .val (.int p5), .val (.int ((1 : Int32) + ((p0 &&& (2147483647 : Int32)) % (6 : Int32)))), .val (.int ((p1 &&& (255 : Int32)) % (5 : Int32))), .val (.int ((((p1.toUInt32 >>> ((8 : Int32) &&& 31).toUInt32).toInt32) &&& (255 : Int32)) % (5 : Int32))), .val (.int ((p2 &&& (65535 : Int32)) % ((1 : Int32) + ((p0 &&& (2147483647 : Int32)) % (6 : Int32))))), .unset, .unset, .unset, .unset, .unset, .unset, .unset, .unset, .unset, .unset, .unset, .unset, .unset, .unset, .unset, .unset] [(.int ((1 : Int32) + ((p0 &&& (2147483647 : Int32)) % (6 : Int32)))), (.int ((p2.toUInt32 >>> ((16 : Int32) &&& 31).toUInt32).toInt32)), (.int 1)])) X0 hx rfl (hb hby at_48) rfl (own_nz (own_P p0))) ?_
  refine OGets.step (fun _ => XS.iadd X0.here hx rfl (hb hby at_49) rfl) ?_
  show OGets p e below _ (s₁.setTop (mkF m 50 #[.val (.int p0), .val (.int p1), .val (.int p2), .val (.int p3), .val (.int p4), .val (.int p5), .val (.int ((1 : Int32) + ((p0 &&& (2147483647 : Int32)) % (6 : Int32)))), .val (.int ((p1 &&& (255 : Int32)) % (5 : Int32))), .val (.int ((((p1.toUInt32 >>> ((8 : Int32) &&& 31).toUInt32).toInt32) &&& (255 : Int32)) % (5 : Int32))), .val (.int ((p2 &&& (65535 : Int32)) % ((1 : Int32) + ((p0 &&& (2147483647 : Int32)) % (6 : Int32))))), .unset, .unset, .unset, .unset, .unset, .unset, .unset, .unset, .unset, .unset, .unset, .unset, .unset, .unset, .unset, .unset] [(.int ((1 : Int32) + (((p2.toUInt32 >>> ((16 : Int32) &&& 31).toUInt32).toInt32) % ((1 : Int32) + ((p0 &&& (2147483647 : Int32)) % (6 : Int32))))))]))
  refine OGets.step (fun _ => XS.istore X0.here hx rfl (hb hby at_50) rfl (l' := #[.val (.int p0), .val (.int p1), .val (.int p2), .val (.int p3), .val (.int p4), .val (.int p5), .val (.int ((1 : Int32) + ((p0 &&& (2147483647 : Int32)) % (6 : Int32)))), .val (.int ((p1 &&& (255 : Int32)) % (5 : Int32))), .val (.int ((((p1.toUInt32 >>> ((8 : Int32) &&& 31).toUInt32).toInt32) &&& (255 : Int32)) % (5 : Int32))), .val (.int ((p2 &&& (65535 : Int32)) % ((1 : Int32) + ((p0 &&& (2147483647 : Int32)) % (6 : Int32))))), .val (.int ((1 : Int32) + (((p2.toUInt32 >>> ((16 : Int32) &&& 31).toUInt32).toInt32) % ((1 : Int32) + ((p0 &&& (2147483647 : Int32)) % (6 : Int32)))))), .unset, .unset, .unset, .unset, .unset, .unset, .unset, .unset, .unset, .unset, .unset, .unset, .unset, .unset, .unset]) rfl) ?_
  refine OGets.step (fun _ => XS.iloadN X0.here hx rfl (hb hby at_52) rfl) ?_
  refine OGets.step (fun _ => XS.sipush X0.here hx rfl (hb hby at_53)) ?_
  refine OGets.step (fun _ => XS.iand X0.here hx rfl (hb hby at_56) rfl) ?_
  refine OGets.step (fun _ => XS.iconst X0.here hx rfl (hb hby at_57)) ?_
  refine OGets.step (fun _ => iremM (g := (mkF m 58 #[.val (.int p0), .val (.int p1), .val (.int p2), .val (.int p3), .val (.int p4), .val (.int p5), .val (.int ((1 : Int32) + ((p0 &&& (2147483647 : Int32)) % (6 : Int32)))), .val (.int ((p1 &&& (255 : Int32)) % (5 : Int32))), .val (.int ((((p1.toUInt32 >>> ((8 : Int32) &&& 31).toUInt32).toInt32) &&& (255 : Int32)) % (5 : Int32))), .val (.int ((p2 &&& (65535 : Int32)) % ((1 : Int32) + ((p0 &&& (2147483647 : Int32)) % (6 : Int32))))), .val (.int ((1 : Int32) + (((p2.toUInt32 >>> ((16 : Int32) &&& 31).toUInt32).toInt32) % ((1 : Int32) + ((p0 &&& (2147483647 : Int32)) % (6 : Int32)))))), .unset, .unset, .unset, .unset, .unset, .unset, .unset, .unset, .unset, .unset, .unset, .unset, .unset, .unset, .unset] [(.int 5), (.int (p3 &&& (255 : Int32)))])) X0 hx rfl (hb hby at_58) rfl (by decide)) ?_
  refine OGets.step (fun _ => XS.istore X0.here hx rfl (hb hby at_59) rfl (l' := #[.val (.int p0), .val (.int p1), .val (.int p2), .val (.int p3), .val (.int p4), .val (.int p5), .val (.int ((1 : Int32) + ((p0 &&& (2147483647 : Int32)) % (6 : Int32)))), .val (.int ((p1 &&& (255 : Int32)) % (5 : Int32))), .val (.int ((((p1.toUInt32 >>> ((8 : Int32) &&& 31).toUInt32).toInt32) &&& (255 : Int32)) % (5 : Int32))), .val (.int ((p2 &&& (65535 : Int32)) % ((1 : Int32) + ((p0 &&& (2147483647 : Int32)) % (6 : Int32))))), .val (.int ((1 : Int32) + (((p2.toUInt32 >>> ((16 : Int32) &&& 31).toUInt32).toInt32) % ((1 : Int32) + ((p0 &&& (2147483647 : Int32)) % (6 : Int32)))))), .val (.int ((p3 &&& (255 : Int32)) % (5 : Int32))), .unset, .unset, .unset, .unset, .unset, .unset, .unset, .unset, .unset, .unset, .unset, .unset, .unset, .unset]) rfl) ?_
  show OGets p e below _ (s₁.setTop (mkF m 61 #[.val (.int p0), .val (.int p1), .val (.int p2), .val (.int p3), .val (.int p4), .val (.int p5), .val (.int ((1 : Int32) + ((p0 &&& (2147483647 : Int32)) % (6 : Int32)))), .val (.int ((p1 &&& (255 : Int32)) % (5 : Int32))), .val (.int ((((p1.toUInt32 >>> ((8 : Int32) &&& 31).toUInt32).toInt32) &&& (255 : Int32)) % (5 : Int32))), .val (.int ((p2 &&& (65535 : Int32)) % ((1 : Int32) + ((p0 &&& (2147483647 : Int32)) % (6 : Int32))))), .val (.int ((1 : Int32) + (((p2.toUInt32 >>> ((16 : Int32) &&& 31).toUInt32).toInt32) % ((1 : Int32) + ((p0 &&& (2147483647 : Int32)) % (6 : Int32)))))), .val (.int ((p3 &&& (255 : Int32)) % (5 : Int32))), .unset, .unset, .unset, .unset, .unset, .unset, .unset, .unset, .unset, .unset, .unset, .unset, .unset, .unset] []))
  refine OGets.step (fun _ => XS.iloadN X0.here hx rfl (hb hby at_61) rfl) ?_
  refine OGets.step (fun _ => XS.bipush X0.here hx rfl (hb hby at_62)) ?_
  refine OGets.step (fun _ => XS.iushr X0.here hx rfl (hb hby at_64) rfl) ?_
  refine OGets.step (fun _ => XS.sipush X0.here hx rfl (hb hby at_65)) ?_
  refine OGets.step (fun _ => XS.iand X0.here hx rfl (hb hby at_68) rfl) ?_
  refine OGets.step (fun _ => XS.iconst X0.here hx rfl (hb hby at_69)) ?_
  refine OGets.step (fun _ => iremM (g := (mkF m 70 #[.val (.int p0), .val (.int p1), .val (.int p2), .val (.int p3), .val (.int p4), .val (.int p5), .val (.int ((1 : Int32) + ((p0 &&& (2147483647 : Int32)) % (6 : Int32)))), .val (.int ((p1 &&& (255 : Int32)) % (5 : Int32))), .val (.int ((((p1.toUInt32 >>> ((8 : Int32) &&& 31).toUInt32).toInt32) &&& (255 : Int32)) % (5 : Int32))), .val (.int ((p2 &&& (65535 : Int32)) % ((1 : Int32) + ((p0 &&& (2147483647 : Int32)) % (6 : Int32))))), .val (.int ((1 : Int32) + (((p2.toUInt32 >>> ((16 : Int32) &&& 31).toUInt32).toInt32) % ((1 : Int32) + ((p0 &&& (2147483647 : Int32)) % (6 : Int32)))))), .val (.int ((p3 &&& (255 : Int32)) % (5 : Int32))), .unset, .unset, .unset, .unset, .unset, .unset, .unset, .unset, .unset, .unset, .unset, .unset, .unset, .unset] [(.int 5), (.int (((p3.toUInt32 >>> ((8 : Int32) &&& 31).toUInt32).toInt32) &&& (255 : Int32)))])) X0 hx rfl (hb hby at_70) rfl (by decide)) ?_
  show OGets p e below _ (s₁.setTop (mkF m 71 #[.val (.int p0), .val (.int p1), .val (.int p2), .val (.int p3), .val (.int p4), .val (.int p5), .val (.int ((1 : Int32) + ((p0 &&& (2147483647 : Int32)) % (6 : Int32)))), .val (.int ((p1 &&& (255 : Int32)) % (5 : Int32))), .val (.int ((((p1.toUInt32 >>> ((8 : Int32) &&& 31).toUInt32).toInt32) &&& (255 : Int32)) % (5 : Int32))), .val (.int ((p2 &&& (65535 : Int32)) % ((1 : Int32) + ((p0 &&& (2147483647 : Int32)) % (6 : Int32))))), .val (.int ((1 : Int32) + (((p2.toUInt32 >>> ((16 : Int32) &&& 31).toUInt32).toInt32) % ((1 : Int32) + ((p0 &&& (2147483647 : Int32)) % (6 : Int32)))))), .val (.int ((p3 &&& (255 : Int32)) % (5 : Int32))), .unset, .unset, .unset, .unset, .unset, .unset, .unset, .unset, .unset, .unset, .unset, .unset, .unset, .unset] [(.int ((((p3.toUInt32 >>> ((8 : Int32) &&& 31).toUInt32).toInt32) &&& (255 : Int32)) % (5 : Int32)))]))
  refine OGets.step (fun _ => XS.istore X0.here hx rfl (hb hby at_71) rfl (l' := #[.val (.int p0), .val (.int p1), .val (.int p2), .val (.int p3), .val (.int p4), .val (.int p5), .val (.int ((1 : Int32) + ((p0 &&& (2147483647 : Int32)) % (6 : Int32)))), .val (.int ((p1 &&& (255 : Int32)) % (5 : Int32))), .val (.int ((((p1.toUInt32 >>> ((8 : Int32) &&& 31).toUInt32).toInt32) &&& (255 : Int32)) % (5 : Int32))), .val (.int ((p2 &&& (65535 : Int32)) % ((1 : Int32) + ((p0 &&& (2147483647 : Int32)) % (6 : Int32))))), .val (.int ((1 : Int32) + (((p2.toUInt32 >>> ((16 : Int32) &&& 31).toUInt32).toInt32) % ((1 : Int32) + ((p0 &&& (2147483647 : Int32)) % (6 : Int32)))))), .val (.int ((p3 &&& (255 : Int32)) % (5 : Int32))), .val (.int ((((p3.toUInt32 >>> ((8 : Int32) &&& 31).toUInt32).toInt32) &&& (255 : Int32)) % (5 : Int32))), .unset, .unset, .unset, .unset, .unset, .unset, .unset, .unset, .unset, .unset, .unset, .unset, .unset]) rfl) ?_
  refine OGets.step (fun _ => XS.iload X0.here hx rfl (hb hby at_73) rfl) ?_
  refine OGets.step (fun _ => X0.ldcInt hx hown (mvT hZ (hw _ (List.mem_of_getElem? (i := 1) rfl))) (g := (mkF m 75 #[.val (.int p0), .val (.int p1), .val (.int p2), .val (.int p3), .val (.int p4), .val (.int p5), .val (.int ((1 : Int32) + ((p0 &&& (2147483647 : Int32)) % (6 : Int32)))), .val (.int ((p1 &&& (255 : Int32)) % (5 : Int32))), .val (.int ((((p1.toUInt32 >>> ((8 : Int32) &&& 31).toUInt32).toInt32) &&& (255 : Int32)) % (5 : Int32))), .val (.int ((p2 &&& (65535 : Int32)) % ((1 : Int32) + ((p0 &&& (2147483647 : Int32)) % (6 : Int32))))), .val (.int ((1 : Int32) + (((p2.toUInt32 >>> ((16 : Int32) &&& 31).toUInt32).toInt32) % ((1 : Int32) + ((p0 &&& (2147483647 : Int32)) % (6 : Int32)))))), .val (.int ((p3 &&& (255 : Int32)) % (5 : Int32))), .val (.int ((((p3.toUInt32 >>> ((8 : Int32) &&& 31).toUInt32).toInt32) &&& (255 : Int32)) % (5 : Int32))), .unset, .unset, .unset, .unset, .unset, .unset, .unset, .unset, .unset, .unset, .unset, .unset, .unset] [(.int p4)])) rfl (hb hby at_75) _) ?_
  refine OGets.step (fun _ => XS.iand X0.here hx rfl (hb hby at_77) rfl) ?_
  refine OGets.step (fun _ => XS.iload X0.here hx rfl (hb hby at_78) rfl) ?_
  refine OGets.step (fun _ => iremM (g := (mkF m 80 #[.val (.int p0), .val (.int p1), .val (.int p2), .val (.int p3), .val (.int p4), .val (.int p5), .val (.int ((1 : Int32) + ((p0 &&& (2147483647 : Int32)) % (6 : Int32)))), .val (.int ((p1 &&& (255 : Int32)) % (5 : Int32))), .val (.int ((((p1.toUInt32 >>> ((8 : Int32) &&& 31).toUInt32).toInt32) &&& (255 : Int32)) % (5 : Int32))), .val (.int ((p2 &&& (65535 : Int32)) % ((1 : Int32) + ((p0 &&& (2147483647 : Int32)) % (6 : Int32))))), .val (.int ((1 : Int32) + (((p2.toUInt32 >>> ((16 : Int32) &&& 31).toUInt32).toInt32) % ((1 : Int32) + ((p0 &&& (2147483647 : Int32)) % (6 : Int32)))))), .val (.int ((p3 &&& (255 : Int32)) % (5 : Int32))), .val (.int ((((p3.toUInt32 >>> ((8 : Int32) &&& 31).toUInt32).toInt32) &&& (255 : Int32)) % (5 : Int32))), .unset, .unset, .unset, .unset, .unset, .unset, .unset, .unset, .unset, .unset, .unset, .unset, .unset] [(.int ((1 : Int32) + ((p0 &&& (2147483647 : Int32)) % (6 : Int32)))), (.int (p4 &&& (65535 : Int32)))])) X0 hx rfl (hb hby at_80) rfl (own_nz (own_P p0))) ?_
  refine OGets.step (fun _ => XS.istore X0.here hx rfl (hb hby at_81) rfl (l' := #[.val (.int p0), .val (.int p1), .val (.int p2), .val (.int p3), .val (.int p4), .val (.int p5), .val (.int ((1 : Int32) + ((p0 &&& (2147483647 : Int32)) % (6 : Int32)))), .val (.int ((p1 &&& (255 : Int32)) % (5 : Int32))), .val (.int ((((p1.toUInt32 >>> ((8 : Int32) &&& 31).toUInt32).toInt32) &&& (255 : Int32)) % (5 : Int32))), .val (.int ((p2 &&& (65535 : Int32)) % ((1 : Int32) + ((p0 &&& (2147483647 : Int32)) % (6 : Int32))))), .val (.int ((1 : Int32) + (((p2.toUInt32 >>> ((16 : Int32) &&& 31).toUInt32).toInt32) % ((1 : Int32) + ((p0 &&& (2147483647 : Int32)) % (6 : Int32)))))), .val (.int ((p3 &&& (255 : Int32)) % (5 : Int32))), .val (.int ((((p3.toUInt32 >>> ((8 : Int32) &&& 31).toUInt32).toInt32) &&& (255 : Int32)) % (5 : Int32))), .val (.int ((p4 &&& (65535 : Int32)) % ((1 : Int32) + ((p0 &&& (2147483647 : Int32)) % (6 : Int32))))), .unset, .unset, .unset, .unset, .unset, .unset, .unset, .unset, .unset, .unset, .unset, .unset]) rfl) ?_
  show OGets p e below _ (s₁.setTop (mkF m 83 #[.val (.int p0), .val (.int p1), .val (.int p2), .val (.int p3), .val (.int p4), .val (.int p5), .val (.int ((1 : Int32) + ((p0 &&& (2147483647 : Int32)) % (6 : Int32)))), .val (.int ((p1 &&& (255 : Int32)) % (5 : Int32))), .val (.int ((((p1.toUInt32 >>> ((8 : Int32) &&& 31).toUInt32).toInt32) &&& (255 : Int32)) % (5 : Int32))), .val (.int ((p2 &&& (65535 : Int32)) % ((1 : Int32) + ((p0 &&& (2147483647 : Int32)) % (6 : Int32))))), .val (.int ((1 : Int32) + (((p2.toUInt32 >>> ((16 : Int32) &&& 31).toUInt32).toInt32) % ((1 : Int32) + ((p0 &&& (2147483647 : Int32)) % (6 : Int32)))))), .val (.int ((p3 &&& (255 : Int32)) % (5 : Int32))), .val (.int ((((p3.toUInt32 >>> ((8 : Int32) &&& 31).toUInt32).toInt32) &&& (255 : Int32)) % (5 : Int32))), .val (.int ((p4 &&& (65535 : Int32)) % ((1 : Int32) + ((p0 &&& (2147483647 : Int32)) % (6 : Int32))))), .unset, .unset, .unset, .unset, .unset, .unset, .unset, .unset, .unset, .unset, .unset, .unset] []))
  refine OGets.step (fun _ => XS.iconst X0.here hx rfl (hb hby at_83)) ?_
  refine OGets.step (fun _ => XS.iload X0.here hx rfl (hb hby at_84) rfl) ?_
  refine OGets.step (fun _ => XS.bipush X0.here hx rfl (hb hby at_86)) ?_
  refine OGets.step (fun _ => XS.iushr X0.here hx rfl (hb hby at_88) rfl) ?_
  refine OGets.step (fun _ => XS.iload X0.here hx rfl (hb hby at_89) rfl) ?_
  refine OGets.step (fun _ => iremM (g := (mkF m 91 #[.val (.int p0), .val (.int p1), .val (.int p2), .val (.int p3), .val (.int p4), .val (.int p5), .val (.int ((1 : Int32) + ((p0 &&& (2147483647 : Int32)) % (6 : Int32)))), .val (.int ((p1 &&& (255 : Int32)) % (5 : Int32))), .val (.int ((((p1.toUInt32 >>> ((8 : Int32) &&& 31).toUInt32).toInt32) &&& (255 : Int32)) % (5 : Int32))), .val (.int ((p2 &&& (65535 : Int32)) % ((1 : Int32) + ((p0 &&& (2147483647 : Int32)) % (6 : Int32))))), .val (.int ((1 : Int32) + (((p2.toUInt32 >>> ((16 : Int32) &&& 31).toUInt32).toInt32) % ((1 : Int32) + ((p0 &&& (2147483647 : Int32)) % (6 : Int32)))))), .val (.int ((p3 &&& (255 : Int32)) % (5 : Int32))), .val (.int ((((p3.toUInt32 >>> ((8 : Int32) &&& 31).toUInt32).toInt32) &&& (255 : Int32)) % (5 : Int32))), .val (.int ((p4 &&& (65535 : Int32)) % ((1 : Int32) + ((p0 &&& (2147483647 : Int32)) % (6 : Int32))))), .unset, .unset, .unset, .unset, .unset, .unset, .unset, .unset, .unset, .unset, .unset, .unset] [(.int ((1 : Int32) + ((p0 &&& (2147483647 : Int32)) % (6 : Int32)))), (.int ((p4.toUInt32 >>> ((16 : Int32) &&& 31).toUInt32).toInt32)), (.int 1)])) X0 hx rfl (hb hby at_91) rfl (own_nz (own_P p0))) ?_
  refine OGets.step (fun _ => XS.iadd X0.here hx rfl (hb hby at_92) rfl) ?_
  show OGets p e below _ (s₁.setTop (mkF m 93 #[.val (.int p0), .val (.int p1), .val (.int p2), .val (.int p3), .val (.int p4), .val (.int p5), .val (.int ((1 : Int32) + ((p0 &&& (2147483647 : Int32)) % (6 : Int32)))), .val (.int ((p1 &&& (255 : Int32)) % (5 : Int32))), .val (.int ((((p1.toUInt32 >>> ((8 : Int32) &&& 31).toUInt32).toInt32) &&& (255 : Int32)) % (5 : Int32))), .val (.int ((p2 &&& (65535 : Int32)) % ((1 : Int32) + ((p0 &&& (2147483647 : Int32)) % (6 : Int32))))), .val (.int ((1 : Int32) + (((p2.toUInt32 >>> ((16 : Int32) &&& 31).toUInt32).toInt32) % ((1 : Int32) + ((p0 &&& (2147483647 : Int32)) % (6 : Int32)))))), .val (.int ((p3 &&& (255 : Int32)) % (5 : Int32))), .val (.int ((((p3.toUInt32 >>> ((8 : Int32) &&& 31).toUInt32).toInt32) &&& (255 : Int32)) % (5 : Int32))), .val (.int ((p4 &&& (65535 : Int32)) % ((1 : Int32) + ((p0 &&& (2147483647 : Int32)) % (6 : Int32))))), .unset, .unset, .unset, .unset, .unset, .unset, .unset, .unset, .unset, .unset, .unset, .unset] [(.int ((1 : Int32) + (((p4.toUInt32 >>> ((16 : Int32) &&& 31).toUInt32).toInt32) % ((1 : Int32) + ((p0 &&& (2147483647 : Int32)) % (6 : Int32))))))]))
  refine OGets.step (fun _ => XS.istore X0.here hx rfl (hb hby at_93) rfl (l' := #[.val (.int p0), .val (.int p1), .val (.int p2), .val (.int p3), .val (.int p4), .val (.int p5), .val (.int ((1 : Int32) + ((p0 &&& (2147483647 : Int32)) % (6 : Int32)))), .val (.int ((p1 &&& (255 : Int32)) % (5 : Int32))), .val (.int ((((p1.toUInt32 >>> ((8 : Int32) &&& 31).toUInt32).toInt32) &&& (255 : Int32)) % (5 : Int32))), .val (.int ((p2 &&& (65535 : Int32)) % ((1 : Int32) + ((p0 &&& (2147483647 : Int32)) % (6 : Int32))))), .val (.int ((1 : Int32) + (((p2.toUInt32 >>> ((16 : Int32) &&& 31).toUInt32).toInt32) % ((1 : Int32) + ((p0 &&& (2147483647 : Int32)) % (6 : Int32)))))), .val (.int ((p3 &&& (255 : Int32)) % (5 : Int32))), .val (.int ((((p3.toUInt32 >>> ((8 : Int32) &&& 31).toUInt32).toInt32) &&& (255 : Int32)) % (5 : Int32))), .val (.int ((p4 &&& (65535 : Int32)) % ((1 : Int32) + ((p0 &&& (2147483647 : Int32)) % (6 : Int32))))), .val (.int ((1 : Int32) + (((p4.toUInt32 >>> ((16 : Int32) &&& 31).toUInt32).toInt32) % ((1 : Int32) + ((p0 &&& (2147483647 : Int32)) % (6 : Int32)))))), .unset, .unset, .unset, .unset, .unset, .unset, .unset, .unset, .unset, .unset, .unset]) rfl) ?_
  show OGets p e below _ (s₁.setTop (mkF m 95 #[.val (.int p0), .val (.int p1), .val (.int p2), .val (.int p3), .val (.int p4), .val (.int p5), .val (.int ((1 : Int32) + ((p0 &&& (2147483647 : Int32)) % (6 : Int32)))), .val (.int ((p1 &&& (255 : Int32)) % (5 : Int32))), .val (.int ((((p1.toUInt32 >>> ((8 : Int32) &&& 31).toUInt32).toInt32) &&& (255 : Int32)) % (5 : Int32))), .val (.int ((p2 &&& (65535 : Int32)) % ((1 : Int32) + ((p0 &&& (2147483647 : Int32)) % (6 : Int32))))), .val (.int ((1 : Int32) + (((p2.toUInt32 >>> ((16 : Int32) &&& 31).toUInt32).toInt32) % ((1 : Int32) + ((p0 &&& (2147483647 : Int32)) % (6 : Int32)))))), .val (.int ((p3 &&& (255 : Int32)) % (5 : Int32))), .val (.int ((((p3.toUInt32 >>> ((8 : Int32) &&& 31).toUInt32).toInt32) &&& (255 : Int32)) % (5 : Int32))), .val (.int ((p4 &&& (65535 : Int32)) % ((1 : Int32) + ((p0 &&& (2147483647 : Int32)) % (6 : Int32))))), .val (.int ((1 : Int32) + (((p4.toUInt32 >>> ((16 : Int32) &&& 31).toUInt32).toInt32) % ((1 : Int32) + ((p0 &&& (2147483647 : Int32)) % (6 : Int32)))))), .unset, .unset, .unset, .unset, .unset, .unset, .unset, .unset, .unset, .unset, .unset] []))
  have hP := own_P p0
  have D1 := own_D ((1 : Int32) + ((p0 &&& (2147483647 : Int32)) % (6 : Int32))) p1 p2 hP
  have D2 := own_D ((1 : Int32) + ((p0 &&& (2147483647 : Int32)) % (6 : Int32))) p3 p4 hP
  generalize ((p1 &&& (255 : Int32)) % (5 : Int32)) = l1 at D1 D2 ⊢
  generalize ((((p1.toUInt32 >>> ((8 : Int32) &&& 31).toUInt32).toInt32) &&& (255 : Int32)) % (5 : Int32)) = m1 at D1 D2 ⊢
  generalize ((p2 &&& (65535 : Int32)) % ((1 : Int32) + ((p0 &&& (2147483647 : Int32)) % (6 : Int32)))) = ph1 at D1 D2 ⊢
  generalize ((1 : Int32) + (((p2.toUInt32 >>> ((16 : Int32) &&& 31).toUInt32).toInt32) % ((1 : Int32) + ((p0 &&& (2147483647 : Int32)) % (6 : Int32))))) = w1 at D1 D2 ⊢
  generalize ((p3 &&& (255 : Int32)) % (5 : Int32)) = l2 at D1 D2 ⊢
  generalize ((((p3.toUInt32 >>> ((8 : Int32) &&& 31).toUInt32).toInt32) &&& (255 : Int32)) % (5 : Int32)) = m2 at D1 D2 ⊢
  generalize ((p4 &&& (65535 : Int32)) % ((1 : Int32) + ((p0 &&& (2147483647 : Int32)) % (6 : Int32)))) = ph2 at D1 D2 ⊢
  generalize ((1 : Int32) + (((p4.toUInt32 >>> ((16 : Int32) &&& 31).toUInt32).toInt32) % ((1 : Int32) + ((p0 &&& (2147483647 : Int32)) % (6 : Int32))))) = w2 at D1 D2 ⊢
  generalize ((1 : Int32) + ((p0 &&& (2147483647 : Int32)) % (6 : Int32))) = per at D1 D2 hP ⊢
  show OGets p e below _ (s₁.setTop (mkF m 95 #[.val (.int p0), .val (.int p1), .val (.int p2), .val (.int p3), .val (.int p4), .val (.int p5), .val (.int per), .val (.int l1), .val (.int m1), .val (.int ph1), .val (.int w1), .val (.int l2), .val (.int m2), .val (.int ph2), .val (.int w2), .unset, .unset, .unset, .unset, .unset, .unset, .unset, .unset, .unset, .unset, .unset] []))
  by_cases hB : (1 : Int32) < per ∧ per < (5 : Int32)
  · show OGets p e below _ (s₁.setTop (mkF m 95 #[.val (.int p0), .val (.int p1), .val (.int p2), .val (.int p3), .val (.int p4), .val (.int p5), .val (.int per), .val (.int l1), .val (.int m1), .val (.int ph1), .val (.int w1), .val (.int l2), .val (.int m2), .val (.int ph2), .val (.int w2), .unset, .unset, .unset, .unset, .unset, .unset, .unset, .unset, .unset, .unset, .unset] []))
    obtain ⟨T416, h416, X416, e416, E416, A416, D416, -, st416⟩ := newO X0 hx hZ hown (hw _ (List.mem_of_getElem? (i := 2) rfl)) (hw _ (List.mem_of_getElem? (i := 3) rfl)) (hw _ (List.mem_of_getElem? (i := 4) rfl)) e0 (g := (mkF m 95 #[.val (.int p0), .val (.int p1), .val (.int p2), .val (.int p3), .val (.int p4), .val (.int p5), .val (.int per), .val (.int l1), .val (.int m1), .val (.int ph1), .val (.int w1), .val (.int l2), .val (.int m2), .val (.int ph2), .val (.int w2), .unset, .unset, .unset, .unset, .unset, .unset, .unset, .unset, .unset, .unset, .unset] [])) rfl (hb hby at_95) (by decide) (by decide)
    have V416' := V0.newObj (ns := ns_StackCounts) (vs := [(.int 0), .null, .null, .null, .null, (.int 0)]) Z0 E416 A416 D416 (lay_ns_StackCounts hw) (by decide) (by decide)
    have Z416 : n0 ≤ h416.size := Nat.le_trans Z0 E416.1
    obtain ⟨b416, g416⟩ : ∃ z, z = h0.size := ⟨_, rfl⟩
    rw [← g416] at V416' st416
    have V416 : OView Z n0 h416 (oC b416 [(.int 0), .null, .null, .null, .null, (.int 0)] :: []) := V416'
    refine OGets.step st416 ?_
    refine OGets.step (fun _ => XS.dup X416.here hx rfl (hb hby at_98) rfl rfl) ?_
    refine OGets.step (fun _ => XS.iconst X416.here hx rfl (hb hby at_99)) ?_
    refine OGets.step (fun _ => XS.iload X416.here hx rfl (hb hby at_100) rfl) ?_
    obtain ⟨_, _, ⟨T417, L417, k417, n417⟩, -, X417, ⟨Lc417, hQ417, l417, y417, z417⟩, st417⟩ := X416.specialBack hx (y := (⟨"com/example/pelt/pelt/StackCounts", "<init>", "(II)V"⟩ : MethodName)) rfl hown (mvT hZ (hw _ (List.mem_of_getElem? (i := 5) rfl))) (mvT hZ (hw _ (List.mem_of_getElem? (i := 6) rfl))) (mvT hZ (hw _ (List.mem_of_getElem? (i := 7) rfl))) (by decide) (backOf (W := 1) (rm_initB l Z a0 hw [] b416 per h416 n0 ([]) Z416 hB V416) hZ (hw _ (List.mem_of_getElem? (i := 7) rfl)) (hw _ (List.mem_of_getElem? (i := 4) rfl)) (by decide) (by decide)) (g := (mkF m 102 #[.val (.int p0), .val (.int p1), .val (.int p2), .val (.int p3), .val (.int p4), .val (.int p5), .val (.int per), .val (.int l1), .val (.int m1), .val (.int ph1), .val (.int w1), .val (.int l2), .val (.int m2), .val (.int ph2), .val (.int w2), .unset, .unset, .unset, .unset, .unset, .unset, .unset, .unset, .unset, .unset, .unset] [(.int per), (.int 5), (.ref b416), (.ref b416)])) rfl (by rw [hml]; rfl) (Steps.refl _) (a := b416) (argsL := [(.int 5), (.int per)]) (rest := [(.ref b416)]) (lenOf pd_13 rfl) rfl (by show 2 * 0 + _ ≤ _; exact Nat.le_of_eq rfl) (hb hby at_102) (fun _ _ => ⟨rfl, e416, Nat.le_of_ble_eq_true rfl, Nat.le_of_ble_eq_true rfl⟩)
    dsimp only [Pt.U, Pt.locs, Pt.cells, Pt.slots] at X417 l417 y417 z417 st417 hQ417
    rw [l417, y417, z417] at X417
    obtain ⟨rfl, N417q, au417, ac417, ab417, ay417, V417⟩ := hQ417
    have N417 := Fr.app N0 N417q
    have V417v : OView Z n0 T417.heap (oJ ay417 (List.replicate 6 (0 : Int64)) :: oA ab417 (List.replicate 5 (0 : Int32)) :: oA ac417 (List.replicate 5 (0 : Int32)) :: oA au417 (List.replicate 5 (0 : Int32)) :: oC b416 [(.int per), (.ref au417), (.ref ac417), (.ref ab417), (.ref ay417), (.int 0)] :: []) := V417
    have Z417 : n0 ≤ T417.heap.size := V417v.big 0 rfl
    refine OGets.after st417 ?_
    refine OGets.step (fun _ => XS.astore X417.here hx rfl (hb hby at_105) rfl rfl (l' := #[.val (.int p0), .val (.int p1), .val (.int p2), .val (.int p3), .val (.int p4), .val (.int p5), .val (.int per), .val (.int l1), .val (.int m1), .val (.int ph1), .val (.int w1), .val (.int l2), .val (.int m2), .val (.int ph2), .val (.int w2), .val (.ref b416), .unset, .unset, .unset, .unset, .unset, .unset, .unset, .unset, .unset, .unset]) rfl) ?_
    refine OGets.step (fun _ => XS.aload X417.here hx rfl (hb hby at_107) rfl rfl) ?_
    have K419 : ∀ (T419 : State) (lj419 : List Loc) (t418 : Int32), Stand p l e room_1 s m #[(.int p0), (.int p1), (.int p2), (.int p3), (.int p4), (.int p5)] below meth c T419 lj419 5 27 → Fr n0 lj419 → n0 ≤ T419.heap.size → OView Z n0 T419.heap (oJ ay417 (List.replicate 6 (0 : Int64)) :: oA ab417 (List.replicate 5 (0 : Int32)) :: oA ac417 (List.replicate 5 (0 : Int32)) :: oA au417 (List.replicate 5 (0 : Int32)) :: oC b416 [(.int per), (.ref au417), (.ref ac417), (.ref ab417), (.ref ay417), (.int 0)] :: []) → OGets p e below (OLeaves s (Q_law Z p0 p1 p2 p3 p4 p5 h0 n0 ) 32 192) (T419.setTop (mkF m 121 #[.val (.int p0), .val (.int p1), .val (.int p2), .val (.int p3), .val (.int p4), .val (.int p5), .val (.int per), .val (.int l1), .val (.int m1), .val (.int ph1), .val (.int w1), .val (.int l2), .val (.int m2), .val (.int ph2), .val (.int w2), .val (.ref b416), .unset, .unset, .unset, .unset, .unset, .unset, .unset, .unset, .unset, .unset] [(.int t418), (.ref b416)])) := by
      intro T419 lj419 t418 X419 N419 Z419 V419
      show OGets p e below _ (T419.setTop (mkF m 121 #[.val (.int p0), .val (.int p1), .val (.int p2), .val (.int p3), .val (.int p4), .val (.int p5), .val (.int per), .val (.int l1), .val (.int m1), .val (.int ph1), .val (.int w1), .val (.int l2), .val (.int m2), .val (.int ph2), .val (.int w2), .val (.ref b416), .unset, .unset, .unset, .unset, .unset, .unset, .unset, .unset, .unset, .unset] [(.int t418), (.ref b416)]))
      have V420_ : OView Z _ T419.heap (oC b416 [(.int per), (.ref au417), (.ref ac417), (.ref ab417), (.ref ay417), (.int 0)] :: oA au417 (List.replicate 5 (0 : Int32)) :: oA ac417 (List.replicate 5 (0 : Int32)) :: oA ab417 (List.replicate 5 (0 : Int32)) :: oJ ay417 (List.replicate 6 (0 : Int64)) :: []) := ((((V419.bring 1 rfl).bring 2 rfl).bring 3 rfl).bring 4 rfl)
      obtain ⟨cq420, kq420, q420a, q420b, q420c⟩ := isOf hZ rfl (V420_.exa 0 rfl)
      obtain ⟨_, _, ⟨T420, L420, k420, n420⟩, -, X420, ⟨Lc420, hQ420, l420, y420, z420⟩, st420⟩ := X419.virtualBack hx (y := (⟨"com/example/pelt/pelt/StackCounts", "push", "(Z)V"⟩ : MethodName)) (z := (⟨"com/example/pelt/pelt/StackCounts", "push", "(Z)V"⟩ : MethodName)) hown (mvT hZ (hw _ (List.mem_of_getElem? (i := 22) rfl))) (mvT hZ (hw _ (List.mem_of_getElem? (i := 23) rfl))) (notFace_of_selects (args := #[]) (mvT hZ (hw _ (List.mem_of_getElem? (i := 25) rfl)))) (mvT hZ (hw _ (List.mem_of_getElem? (i := 25) rfl))) (mvT hZ (hw _ (List.mem_of_getElem? (i := 24) rfl))) (by decide) (backOf (W := 0) (rm_pushB l Z a0 hw [] ab417 ay417 b416 au417 ac417 per (0 : Int32) t418 (List.replicate 5 (0 : Int32)) (List.replicate 5 (0 : Int32)) (List.replicate 5 (0 : Int32)) (List.replicate 6 (0 : Int64)) T419.heap n0 ([]) Z419 (by simp only [List.length_replicate]) (by simp only [List.length_replicate]) (by decide) (by decide) (by simp only [List.length_replicate]) (by simp only [List.length_replicate]) (by decide) (own_h3 hB (by decide)) V420_) hZ (hw _ (List.mem_of_getElem? (i := 26) rfl)) (hw _ (List.mem_of_getElem? (i := 4) rfl)) (by decide) (by decide)) q420a q420c (g := (mkF m 121 #[.val (.int p0), .val (.int p1), .val (.int p2), .val (.int p3), .val (.int p4), .val (.int p5), .val (.int per), .val (.int l1), .val (.int m1), .val (.int ph1), .val (.int w1), .val (.int l2), .val (.int m2), .val (.int ph2), .val (.int w2), .val (.ref b416), .unset, .unset, .unset, .unset, .unset, .unset, .unset, .unset, .unset, .unset] [(.int t418), (.ref b416)])) rfl (by rw [hml]; rfl) (Steps.refl _) (argsL := [(.int t418)]) (rest := []) (lenOf pd_14 rfl) rfl (by show 2 * 0 + _ ≤ _; exact Nat.le_of_eq rfl) (hb hby at_121) (fun _ _ => ⟨rfl, rfl, Nat.le_of_ble_eq_true rfl, Nat.le_of_ble_eq_true rfl⟩)
      dsimp only [Pt.U, Pt.locs, Pt.cells, Pt.slots] at X420 l420 y420 z420 st420 hQ420
      rw [l420, y420, z420] at X420
      obtain ⟨rfl, N420q, V420⟩ := hQ420
      have N420 := Fr.app N419 N420q
      have V420v : OView Z n0 T420.heap (oC b416 [(.int per), (.ref au417), (.ref ac417), (.ref ab417), (.ref ay417), (.int 1)] :: oA au417 (puU (List.replicate 5 (0 : Int32)) (0 : Int32) t418) :: oA ac417 (si (List.replicate 5 (0 : Int32)) (0 : Int32) (0 : Int32)) :: oA ab417 (si (List.replicate 5 (0 : Int32)) (0 : Int32) (0 : Int32)) :: oJ ay417 (puY (List.replicate 5 (0 : Int32)) (List.replicate 6 (0 : Int64)) per (0 : Int32) t418) :: []) := V420
      obtain ⟨Uq420, hUq420⟩ : ∃ z, z = (puU (List.replicate 5 (0 : Int32)) (0 : Int32) t418) := ⟨_, rfl⟩
      rw [← hUq420] at V420v
      have lUq420 : Uq420.length = 5 := by rw [hUq420]; simp only [puU_len, List.length_replicate]
      clear hUq420
      obtain ⟨Yq420, hYq420⟩ : ∃ z, z = (puY (List.replicate 5 (0 : Int32)) (List.replicate 6 (0 : Int64)) per (0 : Int32) t418) := ⟨_, rfl⟩
      rw [← hYq420] at V420v
      have lYq420 : Yq420.length = 6 := by rw [hYq420]; simp only [puY_len, List.length_replicate]
      clear hYq420
      rw [show (si (List.replicate 5 (0 : Int32)) (0 : Int32) (0 : Int32)) = (List.replicate 5 (0 : Int32)) from by decide] at V420v
      have Z420 : n0 ≤ T420.heap.size := V420v.big 0 rfl
      refine OGets.after st420 ?_
      refine OGets.step (fun _ => XS.aload X420.here hx rfl (hb hby at_124) rfl rfl) ?_
      have K422 : ∀ (T422 : State) (lj422 : List Loc) (t421 : Int32), Stand p l e room_1 s m #[(.int p0), (.int p1), (.int p2), (.int p3), (.int p4), (.int p5)] below meth c T422 lj422 5 27 → Fr n0 lj422 → n0 ≤ T422.heap.size → OView Z n0 T422.heap (oC b416 [(.int per), (.ref au417), (.ref ac417), (.ref ab417), (.ref ay417), (.int 1)] :: oA au417 Uq420 :: oA ac417 (List.replicate 5 (0 : Int32)) :: oA ab417 (List.replicate 5 (0 : Int32)) :: oJ ay417 Yq420 :: []) → OGets p e below (OLeaves s (Q_law Z p0 p1 p2 p3 p4 p5 h0 n0 ) 32 192) (T422.setTop (mkF m 138 #[.val (.int p0), .val (.int p1), .val (.int p2), .val (.int p3), .val (.int p4), .val (.int p5), .val (.int per), .val (.int l1), .val (.int m1), .val (.int ph1), .val (.int w1), .val (.int l2), .val (.int m2), .val (.int ph2), .val (.int w2), .val (.ref b416), .unset, .unset, .unset, .unset, .unset, .unset, .unset, .unset, .unset, .unset] [(.int t421), (.ref b416)])) := by
        intro T422 lj422 t421 X422 N422 Z422 V422
        show OGets p e below _ (T422.setTop (mkF m 138 #[.val (.int p0), .val (.int p1), .val (.int p2), .val (.int p3), .val (.int p4), .val (.int p5), .val (.int per), .val (.int l1), .val (.int m1), .val (.int ph1), .val (.int w1), .val (.int l2), .val (.int m2), .val (.int ph2), .val (.int w2), .val (.ref b416), .unset, .unset, .unset, .unset, .unset, .unset, .unset, .unset, .unset, .unset] [(.int t421), (.ref b416)]))
        obtain ⟨cq423, kq423, q423a, q423b, q423c⟩ := isOf hZ rfl (V422.exa 0 rfl)
        obtain ⟨_, _, ⟨T423, L423, k423, n423⟩, -, X423, ⟨Lc423, hQ423, l423, y423, z423⟩, st423⟩ := X422.virtualBack hx (y := (⟨"com/example/pelt/pelt/StackCounts", "push", "(Z)V"⟩ : MethodName)) (z := (⟨"com/example/pelt/pelt/StackCounts", "push", "(Z)V"⟩ : MethodName)) hown (mvT hZ (hw _ (List.mem_of_getElem? (i := 22) rfl))) (mvT hZ (hw _ (List.mem_of_getElem? (i := 23) rfl))) (notFace_of_selects (args := #[]) (mvT hZ (hw _ (List.mem_of_getElem? (i := 25) rfl)))) (mvT hZ (hw _ (List.mem_of_getElem? (i := 25) rfl))) (mvT hZ (hw _ (List.mem_of_getElem? (i := 24) rfl))) (by decide) (backOf (W := 0) (rm_pushB l Z a0 hw [] ab417 ay417 b416 au417 ac417 per (1 : Int32) t421 Uq420 (List.replicate 5 (0 : Int32)) (List.replicate 5 (0 : Int32)) Yq420 T422.heap n0 ([]) Z422 (by simp only [List.length_replicate, lUq420]) (by simp only [List.length_replicate]) (by decide) (by decide) (by simp only [List.length_replicate]) (by simp only [List.length_replicate, lYq420]) (by decide) (own_h3 hB (by decide)) V422) hZ (hw _ (List.mem_of_getElem? (i := 26) rfl)) (hw _ (List.mem_of_getElem? (i := 4) rfl)) (by decide) (by decide)) q423a q423c (g := (mkF m 138 #[.val (.int p0), .val (.int p1), .val (.int p2), .val (.int p3), .val (.int p4), .val (.int p5), .val (.int per), .val (.int l1), .val (.int m1), .val (.int ph1), .val (.int w1), .val (.int l2), .val (.int m2), .val (.int ph2), .val (.int w2), .val (.ref b416), .unset, .unset, .unset, .unset, .unset, .unset, .unset, .unset, .unset, .unset] [(.int t421), (.ref b416)])) rfl (by rw [hml]; rfl) (Steps.refl _) (argsL := [(.int t421)]) (rest := []) (lenOf pd_14 rfl) rfl (by show 2 * 0 + _ ≤ _; exact Nat.le_of_eq rfl) (hb hby at_138) (fun _ _ => ⟨rfl, rfl, Nat.le_of_ble_eq_true rfl, Nat.le_of_ble_eq_true rfl⟩)
        dsimp only [Pt.U, Pt.locs, Pt.cells, Pt.slots] at X423 l423 y423 z423 st423 hQ423
        rw [l423, y423, z423] at X423
        obtain ⟨rfl, N423q, V423⟩ := hQ423
        have N423 := Fr.app N422 N423q
        have V423v : OView Z n0 T423.heap (oC b416 [(.int per), (.ref au417), (.ref ac417), (.ref ab417), (.ref ay417), (.int 2)] :: oA au417 (puU Uq420 (1 : Int32) t421) :: oA ac417 (si (List.replicate 5 (0 : Int32)) (1 : Int32) (0 : Int32)) :: oA ab417 (si (List.replicate 5 (0 : Int32)) (1 : Int32) (0 : Int32)) :: oJ ay417 (puY Uq420 Yq420 per (1 : Int32) t421) :: []) := V423
        obtain ⟨Uq423, hUq423⟩ : ∃ z, z = (puU Uq420 (1 : Int32) t421) := ⟨_, rfl⟩
        rw [← hUq423] at V423v
        have lUq423 : Uq423.length = 5 := by rw [hUq423]; simp only [puU_len, List.length_replicate, lUq420]
        clear hUq423
        obtain ⟨Yq423, hYq423⟩ : ∃ z, z = (puY Uq420 Yq420 per (1 : Int32) t421) := ⟨_, rfl⟩
        rw [← hYq423] at V423v
        have lYq423 : Yq423.length = 6 := by rw [hYq423]; simp only [puY_len, List.length_replicate, lYq420]
        clear hYq423
        rw [show (si (List.replicate 5 (0 : Int32)) (1 : Int32) (0 : Int32)) = (List.replicate 5 (0 : Int32)) from by decide] at V423v
        have Z423 : n0 ≤ T423.heap.size := V423v.big 0 rfl
        refine OGets.after st423 ?_
        refine OGets.step (fun _ => XS.aload X423.here hx rfl (hb hby at_141) rfl rfl) ?_
        have K425 : ∀ (T425 : State) (lj425 : List Loc) (t424 : Int32), Stand p l e room_1 s m #[(.int p0), (.int p1), (.int p2), (.int p3), (.int p4), (.int p5)] below meth c T425 lj425 5 27 → Fr n0 lj425 → n0 ≤ T425.heap.size → OView Z n0 T425.heap (oC b416 [(.int per), (.ref au417), (.ref ac417), (.ref ab417), (.ref ay417), (.int 2)] :: oA au417 Uq423 :: oA ac417 (List.replicate 5 (0 : Int32)) :: oA ab417 (List.replicate 5 (0 : Int32)) :: oJ ay417 Yq423 :: []) → OGets p e below (OLeaves s (Q_law Z p0 p1 p2 p3 p4 p5 h0 n0 ) 32 192) (T425.setTop (mkF m 155 #[.val (.int p0), .val (.int p1), .val (.int p2), .val (.int p3), .val (.int p4), .val (.int p5), .val (.int per), .val (.int l1), .val (.int m1), .val (.int ph1), .val (.int w1), .val (.int l2), .val (.int m2), .val (.int ph2), .val (.int w2), .val (.ref b416), .unset, .unset, .unset, .unset, .unset, .unset, .unset, .unset, .unset, .unset] [(.int t424), (.ref b416)])) := by
          intro T425 lj425 t424 X425 N425 Z425 V425
          show OGets p e below _ (T425.setTop (mkF m 155 #[.val (.int p0), .val (.int p1), .val (.int p2), .val (.int p3), .val (.int p4), .val (.int p5), .val (.int per), .val (.int l1), .val (.int m1), .val (.int ph1), .val (.int w1), .val (.int l2), .val (.int m2), .val (.int ph2), .val (.int w2), .val (.ref b416), .unset, .unset, .unset, .unset, .unset, .unset, .unset, .unset, .unset, .unset] [(.int t424), (.ref b416)]))
          obtain ⟨cq426, kq426, q426a, q426b, q426c⟩ := isOf hZ rfl (V425.exa 0 rfl)
          obtain ⟨_, _, ⟨T426, L426, k426, n426⟩, -, X426, ⟨Lc426, hQ426, l426, y426, z426⟩, st426⟩ := X425.virtualBack hx (y := (⟨"com/example/pelt/pelt/StackCounts", "push", "(Z)V"⟩ : MethodName)) (z := (⟨"com/example/pelt/pelt/StackCounts", "push", "(Z)V"⟩ : MethodName)) hown (mvT hZ (hw _ (List.mem_of_getElem? (i := 22) rfl))) (mvT hZ (hw _ (List.mem_of_getElem? (i := 23) rfl))) (notFace_of_selects (args := #[]) (mvT hZ (hw _ (List.mem_of_getElem? (i := 25) rfl)))) (mvT hZ (hw _ (List.mem_of_getElem? (i := 25) rfl))) (mvT hZ (hw _ (List.mem_of_getElem? (i := 24) rfl))) (by decide) (backOf (W := 0) (rm_pushB l Z a0 hw [] ab417 ay417 b416 au417 ac417 per (2 : Int32) t424 Uq423 (List.replicate 5 (0 : Int32)) (List.replicate 5 (0 : Int32)) Yq423 T425.heap n0 ([]) Z425 (by simp only [List.length_replicate, lUq423]) (by simp only [List.length_replicate]) (by decide) (by decide) (by simp only [List.length_replicate]) (by simp only [List.length_replicate, lYq423]) (by decide) (own_h3 hB (by decide)) V425) hZ (hw _ (List.mem_of_getElem? (i := 26) rfl)) (hw _ (List.mem_of_getElem? (i := 4) rfl)) (by decide) (by decide)) q426a q426c (g := (mkF m 155 #[.val (.int p0), .val (.int p1), .val (.int p2), .val (.int p3), .val (.int p4), .val (.int p5), .val (.int per), .val (.int l1), .val (.int m1), .val (.int ph1), .val (.int w1), .val (.int l2), .val (.int m2), .val (.int ph2), .val (.int w2), .val (.ref b416), .unset, .unset, .unset, .unset, .unset, .unset, .unset, .unset, .unset, .unset] [(.int t424), (.ref b416)])) rfl (by rw [hml]; rfl) (Steps.refl _) (argsL := [(.int t424)]) (rest := []) (lenOf pd_14 rfl) rfl (by show 2 * 0 + _ ≤ _; exact Nat.le_of_eq rfl) (hb hby at_155) (fun _ _ => ⟨rfl, rfl, Nat.le_of_ble_eq_true rfl, Nat.le_of_ble_eq_true rfl⟩)
          dsimp only [Pt.U, Pt.locs, Pt.cells, Pt.slots] at X426 l426 y426 z426 st426 hQ426
          rw [l426, y426, z426] at X426
          obtain ⟨rfl, N426q, V426⟩ := hQ426
          have N426 := Fr.app N425 N426q
          have V426v : OView Z n0 T426.heap (oC b416 [(.int per), (.ref au417), (.ref ac417), (.ref ab417), (.ref ay417), (.int 3)] :: oA au417 (puU Uq423 (2 : Int32) t424) :: oA ac417 (si (List.replicate 5 (0 : Int32)) (2 : Int32) (0 : Int32)) :: oA ab417 (si (List.replicate 5 (0 : Int32)) (2 : Int32) (0 : Int32)) :: oJ ay417 (puY Uq423 Yq423 per (2 : Int32) t424) :: []) := V426
          obtain ⟨Uq426, hUq426⟩ : ∃ z, z = (puU Uq423 (2 : Int32) t424) := ⟨_, rfl⟩
          rw [← hUq426] at V426v
          have lUq426 : Uq426.length = 5 := by rw [hUq426]; simp only [puU_len, List.length_replicate, lUq423]
          clear hUq426
          obtain ⟨Yq426, hYq426⟩ : ∃ z, z = (puY Uq423 Yq423 per (2 : Int32) t424) := ⟨_, rfl⟩
          rw [← hYq426] at V426v
          have lYq426 : Yq426.length = 6 := by rw [hYq426]; simp only [puY_len, List.length_replicate, lYq423]
          clear hYq426
          rw [show (si (List.replicate 5 (0 : Int32)) (2 : Int32) (0 : Int32)) = (List.replicate 5 (0 : Int32)) from by decide] at V426v
          have Z426 : n0 ≤ T426.heap.size := V426v.big 0 rfl
          refine OGets.after st426 ?_
          refine OGets.step (fun _ => XS.aload X426.here hx rfl (hb hby at_158) rfl rfl) ?_
          have K428 : ∀ (T428 : State) (lj428 : List Loc) (t427 : Int32), Stand p l e room_1 s m #[(.int p0), (.int p1), (.int p2), (.int p3), (.int p4), (.int p5)] below meth c T428 lj428 5 27 → Fr n0 lj428 → n0 ≤ T428.heap.size → OView Z n0 T428.heap (oC b416 [(.int per), (.ref au417), (.ref ac417), (.ref ab417), (.ref ay417), (.int 3)] :: oA au417 Uq426 :: oA ac417 (List.replicate 5 (0 : Int32)) :: oA ab417 (List.replicate 5 (0 : Int32)) :: oJ ay417 Yq426 :: []) → OGets p e below (OLeaves s (Q_law Z p0 p1 p2 p3 p4 p5 h0 n0 ) 32 192) (T428.setTop (mkF m 173 #[.val (.int p0), .val (.int p1), .val (.int p2), .val (.int p3), .val (.int p4), .val (.int p5), .val (.int per), .val (.int l1), .val (.int m1), .val (.int ph1), .val (.int w1), .val (.int l2), .val (.int m2), .val (.int ph2), .val (.int w2), .val (.ref b416), .unset, .unset, .unset, .unset, .unset, .unset, .unset, .unset, .unset, .unset] [(.int t427), (.ref b416)])) := by
            intro T428 lj428 t427 X428 N428 Z428 V428
            show OGets p e below _ (T428.setTop (mkF m 173 #[.val (.int p0), .val (.int p1), .val (.int p2), .val (.int p3), .val (.int p4), .val (.int p5), .val (.int per), .val (.int l1), .val (.int m1), .val (.int ph1), .val (.int w1), .val (.int l2), .val (.int m2), .val (.int ph2), .val (.int w2), .val (.ref b416), .unset, .unset, .unset, .unset, .unset, .unset, .unset, .unset, .unset, .unset] [(.int t427), (.ref b416)]))
            obtain ⟨cq429, kq429, q429a, q429b, q429c⟩ := isOf hZ rfl (V428.exa 0 rfl)
            obtain ⟨_, _, ⟨T429, L429, k429, n429⟩, -, X429, ⟨Lc429, hQ429, l429, y429, z429⟩, st429⟩ := X428.virtualBack hx (y := (⟨"com/example/pelt/pelt/StackCounts", "push", "(Z)V"⟩ : MethodName)) (z := (⟨"com/example/pelt/pelt/StackCounts", "push", "(Z)V"⟩ : MethodName)) hown (mvT hZ (hw _ (List.mem_of_getElem? (i := 22) rfl))) (mvT hZ (hw _ (List.mem_of_getElem? (i := 23) rfl))) (notFace_of_selects (args := #[]) (mvT hZ (hw _ (List.mem_of_getElem? (i := 25) rfl)))) (mvT hZ (hw _ (List.mem_of_getElem? (i := 25) rfl))) (mvT hZ (hw _ (List.mem_of_getElem? (i := 24) rfl))) (by decide) (backOf (W := 0) (rm_pushB l Z a0 hw [] ab417 ay417 b416 au417 ac417 per (3 : Int32) t427 Uq426 (List.replicate 5 (0 : Int32)) (List.replicate 5 (0 : Int32)) Yq426 T428.heap n0 ([]) Z428 (by simp only [List.length_replicate, lUq426]) (by simp only [List.length_replicate]) (by decide) (by decide) (by simp only [List.length_replicate]) (by simp only [List.length_replicate, lYq426]) (by decide) (own_h3 hB (by decide)) V428) hZ (hw _ (List.mem_of_getElem? (i := 26) rfl)) (hw _ (List.mem_of_getElem? (i := 4) rfl)) (by decide) (by decide)) q429a q429c (g := (mkF m 173 #[.val (.int p0), .val (.int p1), .val (.int p2), .val (.int p3), .val (.int p4), .val (.int p5), .val (.int per), .val (.int l1), .val (.int m1), .val (.int ph1), .val (.int w1), .val (.int l2), .val (.int m2), .val (.int ph2), .val (.int w2), .val (.ref b416), .unset, .unset, .unset, .unset, .unset, .unset, .unset, .unset, .unset, .unset] [(.int t427), (.ref b416)])) rfl (by rw [hml]; rfl) (Steps.refl _) (argsL := [(.int t427)]) (rest := []) (lenOf pd_14 rfl) rfl (by show 2 * 0 + _ ≤ _; exact Nat.le_of_eq rfl) (hb hby at_173) (fun _ _ => ⟨rfl, rfl, Nat.le_of_ble_eq_true rfl, Nat.le_of_ble_eq_true rfl⟩)
            dsimp only [Pt.U, Pt.locs, Pt.cells, Pt.slots] at X429 l429 y429 z429 st429 hQ429
            rw [l429, y429, z429] at X429
            obtain ⟨rfl, N429q, V429⟩ := hQ429
            have N429 := Fr.app N428 N429q
            have V429v : OView Z n0 T429.heap (oC b416 [(.int per), (.ref au417), (.ref ac417), (.ref ab417), (.ref ay417), (.int 4)] :: oA au417 (puU Uq426 (3 : Int32) t427) :: oA ac417 (si (List.replicate 5 (0 : Int32)) (3 : Int32) (0 : Int32)) :: oA ab417 (si (List.replicate 5 (0 : Int32)) (3 : Int32) (0 : Int32)) :: oJ ay417 (puY Uq426 Yq426 per (3 : Int32) t427) :: []) := V429
            obtain ⟨Uq429, hUq429⟩ : ∃ z, z = (puU Uq426 (3 : Int32) t427) := ⟨_, rfl⟩
            rw [← hUq429] at V429v
            have lUq429 : Uq429.length = 5 := by rw [hUq429]; simp only [puU_len, List.length_replicate, lUq426]
            clear hUq429
            obtain ⟨Yq429, hYq429⟩ : ∃ z, z = (puY Uq426 Yq426 per (3 : Int32) t427) := ⟨_, rfl⟩
            rw [← hYq429] at V429v
            have lYq429 : Yq429.length = 6 := by rw [hYq429]; simp only [puY_len, List.length_replicate, lYq426]
            clear hYq429
            rw [show (si (List.replicate 5 (0 : Int32)) (3 : Int32) (0 : Int32)) = (List.replicate 5 (0 : Int32)) from by decide] at V429v
            have Z429 : n0 ≤ T429.heap.size := V429v.big 0 rfl
            refine OGets.after st429 ?_
            refine OGets.step (fun _ => XS.aload X429.here hx rfl (hb hby at_176) rfl rfl) ?_
            have K431 : ∀ (T431 : State) (lj431 : List Loc) (t430 : Int32), Stand p l e room_1 s m #[(.int p0), (.int p1), (.int p2), (.int p3), (.int p4), (.int p5)] below meth c T431 lj431 5 27 → Fr n0 lj431 → n0 ≤ T431.heap.size → OView Z n0 T431.heap (oC b416 [(.int per), (.ref au417), (.ref ac417), (.ref ab417), (.ref ay417), (.int 4)] :: oA au417 Uq429 :: oA ac417 (List.replicate 5 (0 : Int32)) :: oA ab417 (List.replicate 5 (0 : Int32)) :: oJ ay417 Yq429 :: []) → OGets p e below (OLeaves s (Q_law Z p0 p1 p2 p3 p4 p5 h0 n0 ) 32 192) (T431.setTop (mkF m 191 #[.val (.int p0), .val (.int p1), .val (.int p2), .val (.int p3), .val (.int p4), .val (.int p5), .val (.int per), .val (.int l1), .val (.int m1), .val (.int ph1), .val (.int w1), .val (.int l2), .val (.int m2), .val (.int ph2), .val (.int w2), .val (.ref b416), .unset, .unset, .unset, .unset, .unset, .unset, .unset, .unset, .unset, .unset] [(.int t430), (.ref b416)])) := by
              intro T431 lj431 t430 X431 N431 Z431 V431
              show OGets p e below _ (T431.setTop (mkF m 191 #[.val (.int p0), .val (.int p1), .val (.int p2), .val (.int p3), .val (.int p4), .val (.int p5), .val (.int per), .val (.int l1), .val (.int m1), .val (.int ph1), .val (.int w1), .val (.int l2), .val (.int m2), .val (.int ph2), .val (.int w2), .val (.ref b416), .unset, .unset, .unset, .unset, .unset, .unset, .unset, .unset, .unset, .unset] [(.int t430), (.ref b416)]))
              obtain ⟨cq432, kq432, q432a, q432b, q432c⟩ := isOf hZ rfl (V431.exa 0 rfl)
              obtain ⟨_, _, ⟨T432, L432, k432, n432⟩, -, X432, ⟨Lc432, hQ432, l432, y432, z432⟩, st432⟩ := X431.virtualBack hx (y := (⟨"com/example/pelt/pelt/StackCounts", "push", "(Z)V"⟩ : MethodName)) (z := (⟨"com/example/pelt/pelt/StackCounts", "push", "(Z)V"⟩ : MethodName)) hown (mvT hZ (hw _ (List.mem_of_getElem? (i := 22) rfl))) (mvT hZ (hw _ (List.mem_of_getElem? (i := 23) rfl))) (notFace_of_selects (args := #[]) (mvT hZ (hw _ (List.mem_of_getElem? (i := 25) rfl)))) (mvT hZ (hw _ (List.mem_of_getElem? (i := 25) rfl))) (mvT hZ (hw _ (List.mem_of_getElem? (i := 24) rfl))) (by decide) (backOf (W := 0) (rm_pushB l Z a0 hw [] ab417 ay417 b416 au417 ac417 per (4 : Int32) t430 Uq429 (List.replicate 5 (0 : Int32)) (List.replicate 5 (0 : Int32)) Yq429 T431.heap n0 ([]) Z431 (by simp only [List.length_replicate, lUq429]) (by simp only [List.length_replicate]) (by decide) (by decide) (by simp only [List.length_replicate]) (by simp only [List.length_replicate, lYq429]) (by decide) (own_h3 hB (by decide)) V431) hZ (hw _ (List.mem_of_getElem? (i := 26) rfl)) (hw _ (List.mem_of_getElem? (i := 4) rfl)) (by decide) (by decide)) q432a q432c (g := (mkF m 191 #[.val (.int p0), .val (.int p1), .val (.int p2), .val (.int p3), .val (.int p4), .val (.int p5), .val (.int per), .val (.int l1), .val (.int m1), .val (.int ph1), .val (.int w1), .val (.int l2), .val (.int m2), .val (.int ph2), .val (.int w2), .val (.ref b416), .unset, .unset, .unset, .unset, .unset, .unset, .unset, .unset, .unset, .unset] [(.int t430), (.ref b416)])) rfl (by rw [hml]; rfl) (Steps.refl _) (argsL := [(.int t430)]) (rest := []) (lenOf pd_14 rfl) rfl (by show 2 * 0 + _ ≤ _; exact Nat.le_of_eq rfl) (hb hby at_191) (fun _ _ => ⟨rfl, rfl, Nat.le_of_ble_eq_true rfl, Nat.le_of_ble_eq_true rfl⟩)
              dsimp only [Pt.U, Pt.locs, Pt.cells, Pt.slots] at X432 l432 y432 z432 st432 hQ432
              rw [l432, y432, z432] at X432
              obtain ⟨rfl, N432q, V432⟩ := hQ432
              have N432 := Fr.app N431 N432q
              have V432v : OView Z n0 T432.heap (oC b416 [(.int per), (.ref au417), (.ref ac417), (.ref ab417), (.ref ay417), (.int 5)] :: oA au417 (puU Uq429 (4 : Int32) t430) :: oA ac417 (si (List.replicate 5 (0 : Int32)) (4 : Int32) (0 : Int32)) :: oA ab417 (si (List.replicate 5 (0 : Int32)) (4 : Int32) (0 : Int32)) :: oJ ay417 (puY Uq429 Yq429 per (4 : Int32) t430) :: []) := V432
              obtain ⟨Uq432, hUq432⟩ : ∃ z, z = (puU Uq429 (4 : Int32) t430) := ⟨_, rfl⟩
              rw [← hUq432] at V432v
              have lUq432 : Uq432.length = 5 := by rw [hUq432]; simp only [puU_len, List.length_replicate, lUq429]
              clear hUq432
              obtain ⟨Yq432, hYq432⟩ : ∃ z, z = (puY Uq429 Yq429 per (4 : Int32) t430) := ⟨_, rfl⟩
              rw [← hYq432] at V432v
              have lYq432 : Yq432.length = 6 := by rw [hYq432]; simp only [puY_len, List.length_replicate, lYq429]
              clear hYq432
              rw [show (si (List.replicate 5 (0 : Int32)) (4 : Int32) (0 : Int32)) = (List.replicate 5 (0 : Int32)) from by decide] at V432v
              have Z432 : n0 ≤ T432.heap.size := V432v.big 0 rfl
              refine OGets.after st432 ?_
              refine OGets.step (fun _ => XS.aload X432.here hx rfl (hb hby at_194) rfl rfl) ?_
              obtain ⟨T433, h433, X433, e433, E433, A433, D433, -, st433⟩ := newO X432 hx hZ hown (hw _ (List.mem_of_getElem? (i := 29) rfl)) (hw _ (List.mem_of_getElem? (i := 30) rfl)) (hw _ (List.mem_of_getElem? (i := 31) rfl)) rfl (g := (mkF m 196 #[.val (.int p0), .val (.int p1), .val (.int p2), .val (.int p3), .val (.int p4), .val (.int p5), .val (.int per), .val (.int l1), .val (.int m1), .val (.int ph1), .val (.int w1), .val (.int l2), .val (.int m2), .val (.int ph2), .val (.int w2), .val (.ref b416), .unset, .unset, .unset, .unset, .unset, .unset, .unset, .unset, .unset, .unset] [(.ref b416)])) rfl (hb hby at_196) (by decide) (by decide)
              have V433' := V432v.newObj (ns := ns_Strand) (vs := [(.int 0), (.int 0), (.int 0), (.int 0), (.int 0)]) Z432 E433 A433 D433 (lay_ns_Strand hw) (by decide) (by decide)
              have Z433 : n0 ≤ h433.size := Nat.le_trans Z432 E433.1
              obtain ⟨b433, g433⟩ : ∃ z, z = T432.heap.size := ⟨_, rfl⟩
              rw [← g433] at V433' st433
              have V433 : OView Z n0 h433 (oS b433 [(.int 0), (.int 0), (.int 0), (.int 0), (.int 0)] :: oC b416 [(.int per), (.ref au417), (.ref ac417), (.ref ab417), (.ref ay417), (.int 5)] :: oA au417 Uq432 :: oA ac417 (List.replicate 5 (0 : Int32)) :: oA ab417 (List.replicate 5 (0 : Int32)) :: oJ ay417 Yq432 :: []) := V433'
              refine OGets.step st433 ?_
              refine OGets.step (fun _ => XS.dup X433.here hx rfl (hb hby at_199) rfl rfl) ?_
              refine OGets.step (fun _ => XS.iload X433.here hx rfl (hb hby at_200) rfl) ?_
              refine OGets.step (fun _ => XS.iload X433.here hx rfl (hb hby at_202) rfl) ?_
              refine OGets.step (fun _ => XS.iload X433.here hx rfl (hb hby at_204) rfl) ?_
              show OGets p e below _ (T433.setTop (mkF m 206 #[.val (.int p0), .val (.int p1), .val (.int p2), .val (.int p3), .val (.int p4), .val (.int p5), .val (.int per), .val (.int l1), .val (.int m1), .val (.int ph1), .val (.int w1), .val (.int l2), .val (.int m2), .val (.int ph2), .val (.int w2), .val (.ref b416), .unset, .unset, .unset, .unset, .unset, .unset, .unset, .unset, .unset, .unset] [(.int per), (.int m1), (.int l1), (.ref b433), (.ref b433), (.ref b416)]))
              refine OGets.step (fun _ => XS.iload X433.here hx rfl (hb hby at_206) rfl) ?_
              refine OGets.step (fun _ => XS.iload X433.here hx rfl (hb hby at_208) rfl) ?_
              obtain ⟨_, _, ⟨T434, L434, k434, n434⟩, -, X434, ⟨Lc434, hQ434, l434, y434, z434⟩, st434⟩ := X433.specialBack hx (y := (⟨"com/example/pelt/pelt/Strand", "<init>", "(IIIII)V"⟩ : MethodName)) rfl hown (mvT hZ (hw _ (List.mem_of_getElem? (i := 32) rfl))) (mvT hZ (hw _ (List.mem_of_getElem? (i := 33) rfl))) (mvT hZ (hw _ (List.mem_of_getElem? (i := 34) rfl))) (by decide) (backOf (W := 2) (rm_sin l Z a0 hw [] b433 l1 m1 per ph1 w1 h433 n0 (oC b416 [(.int per), (.ref au417), (.ref ac417), (.ref ab417), (.ref ay417), (.int 5)] :: oA au417 Uq432 :: oA ac417 (List.replicate 5 (0 : Int32)) :: oA ab417 (List.replicate 5 (0 : Int32)) :: oJ ay417 Yq432 :: []) Z433  V433) hZ (hw _ (List.mem_of_getElem? (i := 34) rfl)) (hw _ (List.mem_of_getElem? (i := 31) rfl)) (by decide) (by decide)) (g := (mkF m 210 #[.val (.int p0), .val (.int p1), .val (.int p2), .val (.int p3), .val (.int p4), .val (.int p5), .val (.int per), .val (.int l1), .val (.int m1), .val (.int ph1), .val (.int w1), .val (.int l2), .val (.int m2), .val (.int ph2), .val (.int w2), .val (.ref b416), .unset, .unset, .unset, .unset, .unset, .unset, .unset, .unset, .unset, .unset] [(.int w1), (.int ph1), (.int per), (.int m1), (.int l1), (.ref b433), (.ref b433), (.ref b416)])) rfl (by rw [hml]; rfl) (Steps.refl _) (a := b433) (argsL := [(.int l1), (.int m1), (.int per), (.int ph1), (.int w1)]) (rest := [(.ref b433), (.ref b416)]) (lenOf pd_15 rfl) rfl (by show 2 * 0 + _ ≤ _; exact Nat.le_of_eq rfl) (hb hby at_210) (fun _ _ => ⟨rfl, e433, Nat.le_of_ble_eq_true rfl, Nat.le_of_ble_eq_true rfl⟩)
              dsimp only [Pt.U, Pt.locs, Pt.cells, Pt.slots] at X434 l434 y434 z434 st434 hQ434
              rw [l434, y434, z434] at X434
              obtain ⟨rfl, N434q, V434⟩ := hQ434
              have N434 := Fr.app N432 N434q
              have V434v : OView Z n0 T434.heap (oS b433 [(.int l1), (.int m1), (.int per), (.int ph1), (.int w1)] :: oC b416 [(.int per), (.ref au417), (.ref ac417), (.ref ab417), (.ref ay417), (.int 5)] :: oA au417 Uq432 :: oA ac417 (List.replicate 5 (0 : Int32)) :: oA ab417 (List.replicate 5 (0 : Int32)) :: oJ ay417 Yq432 :: []) := V434
              have Z434 : n0 ≤ T434.heap.size := V434v.big 0 rfl
              refine OGets.after st434 ?_
              have V435_ : OView Z _ T434.heap (oC b416 [(.int per), (.ref au417), (.ref ac417), (.ref ab417), (.ref ay417), (.int 5)] :: oA ac417 (List.replicate 5 (0 : Int32)) :: oS b433 [(.int l1), (.int m1), (.int per), (.int ph1), (.int w1)] :: oA ab417 (List.replicate 5 (0 : Int32)) :: oA au417 Uq432 :: oJ ay417 Yq432 :: []) := ((((V434v.bring 4 rfl).bring 1 rfl).bring 4 rfl).bring 3 rfl)
              obtain ⟨cq435, kq435, q435a, q435b, q435c⟩ := isOf hZ rfl (V435_.exa 0 rfl)
              obtain ⟨_, _, ⟨T435, L435, k435, n435⟩, -, X435, ⟨Lc435, hQ435, l435, y435, z435⟩, st435⟩ := X434.virtualBack hx (y := (⟨"com/example/pelt/pelt/StackCounts", "cover", "(Lcom/example/pelt/pelt/Strand;)V"⟩ : MethodName)) (z := (⟨"com/example/pelt/pelt/StackCounts", "cover", "(Lcom/example/pelt/pelt/Strand;)V"⟩ : MethodName)) hown (mvT hZ (hw _ (List.mem_of_getElem? (i := 51) rfl))) (mvT hZ (hw _ (List.mem_of_getElem? (i := 52) rfl))) (notFace_of_selects (args := #[]) (mvT hZ (hw _ (List.mem_of_getElem? (i := 54) rfl)))) (mvT hZ (hw _ (List.mem_of_getElem? (i := 54) rfl))) (mvT hZ (hw _ (List.mem_of_getElem? (i := 53) rfl))) (by decide) (backOf (W := 0) (rm_covB l Z a0 hw [] b416 b433 au417 ac417 ab417 ay417 l1 m1 per ph1 w1 (5 : Int32) (List.replicate 5 (0 : Int32)) (List.replicate 5 (0 : Int32)) T434.heap n0 (oA au417 Uq432 :: oJ ay417 Yq432 :: []) Z434 D1 hB (by simp only [List.length_replicate]) (by simp only [List.length_replicate]) V435_) hZ (hw _ (List.mem_of_getElem? (i := 55) rfl)) (hw _ (List.mem_of_getElem? (i := 4) rfl)) (by decide) (by decide)) q435a q435c (g := (mkF m 213 #[.val (.int p0), .val (.int p1), .val (.int p2), .val (.int p3), .val (.int p4), .val (.int p5), .val (.int per), .val (.int l1), .val (.int m1), .val (.int ph1), .val (.int w1), .val (.int l2), .val (.int m2), .val (.int ph2), .val (.int w2), .val (.ref b416), .unset, .unset, .unset, .unset, .unset, .unset, .unset, .unset, .unset, .unset] [(.ref b433), (.ref b416)])) rfl (by rw [hml]; rfl) (Steps.refl _) (argsL := [(.ref b433)]) (rest := []) (lenOf pd_16 rfl) rfl (by show 2 * 0 + _ ≤ _; exact Nat.le_of_eq rfl) (hb hby at_213) (fun _ _ => ⟨rfl, rfl, Nat.le_of_ble_eq_true rfl, Nat.le_of_ble_eq_true rfl⟩)
              dsimp only [Pt.U, Pt.locs, Pt.cells, Pt.slots] at X435 l435 y435 z435 st435 hQ435
              rw [l435, y435, z435] at X435
              obtain ⟨rfl, N435q, ax435, V435⟩ := hQ435
              have N435 := Fr.app N434 N435q
              have V435v : OView Z n0 T435.heap (oX ax435 [(.ref b416), (.ref b433)] :: oC b416 [(.int per), (.ref au417), (.ref ac417), (.ref ab417), (.ref ay417), (.int 5)] :: oA ac417 (spB per l1 m1 ph1 w1 (List.replicate 5 (0 : Int32)) (List.replicate 5 (0 : Int32))).1 :: oS b433 [(.int l1), (.int m1), (.int per), (.int ph1), (.int w1)] :: oA ab417 (spB per l1 m1 ph1 w1 (List.replicate 5 (0 : Int32)) (List.replicate 5 (0 : Int32))).2 :: oA au417 Uq432 :: oJ ay417 Yq432 :: []) := V435
              obtain ⟨Cq435, hCq435⟩ : ∃ z, z = (spB per l1 m1 ph1 w1 (List.replicate 5 (0 : Int32)) (List.replicate 5 (0 : Int32))).1 := ⟨_, rfl⟩
              rw [← hCq435] at V435v
              have lCq435 : Cq435.length = 5 := by rw [hCq435]; simp only [spB_len1, List.length_replicate]
              obtain ⟨Bq435, hBq435⟩ : ∃ z, z = (spB per l1 m1 ph1 w1 (List.replicate 5 (0 : Int32)) (List.replicate 5 (0 : Int32))).2 := ⟨_, rfl⟩
              rw [← hBq435] at V435v
              have lBq435 : Bq435.length = 5 := by rw [hBq435]; simp only [spB_len2, List.length_replicate]
              have Z435 : n0 ≤ T435.heap.size := V435v.big 0 rfl
              refine OGets.after st435 ?_
              refine OGets.step (fun _ => XS.aload X435.here hx rfl (hb hby at_216) rfl rfl) ?_
              obtain ⟨T436, h436, X436, e436, E436, A436, D436, -, st436⟩ := newO X435 hx hZ hown (hw _ (List.mem_of_getElem? (i := 29) rfl)) (hw _ (List.mem_of_getElem? (i := 30) rfl)) (hw _ (List.mem_of_getElem? (i := 31) rfl)) rfl (g := (mkF m 218 #[.val (.int p0), .val (.int p1), .val (.int p2), .val (.int p3), .val (.int p4), .val (.int p5), .val (.int per), .val (.int l1), .val (.int m1), .val (.int ph1), .val (.int w1), .val (.int l2), .val (.int m2), .val (.int ph2), .val (.int w2), .val (.ref b416), .unset, .unset, .unset, .unset, .unset, .unset, .unset, .unset, .unset, .unset] [(.ref b416)])) rfl (hb hby at_218) (by decide) (by decide)
              have V436' := V435v.newObj (ns := ns_Strand) (vs := [(.int 0), (.int 0), (.int 0), (.int 0), (.int 0)]) Z435 E436 A436 D436 (lay_ns_Strand hw) (by decide) (by decide)
              have Z436 : n0 ≤ h436.size := Nat.le_trans Z435 E436.1
              obtain ⟨b436, g436⟩ : ∃ z, z = T435.heap.size := ⟨_, rfl⟩
              rw [← g436] at V436' st436
              have V436 : OView Z n0 h436 (oS b436 [(.int 0), (.int 0), (.int 0), (.int 0), (.int 0)] :: oX ax435 [(.ref b416), (.ref b433)] :: oC b416 [(.int per), (.ref au417), (.ref ac417), (.ref ab417), (.ref ay417), (.int 5)] :: oA ac417 Cq435 :: oS b433 [(.int l1), (.int m1), (.int per), (.int ph1), (.int w1)] :: oA ab417 Bq435 :: oA au417 Uq432 :: oJ ay417 Yq432 :: []) := V436'
              refine OGets.step st436 ?_
              refine OGets.step (fun _ => XS.dup X436.here hx rfl (hb hby at_221) rfl rfl) ?_
              show OGets p e below _ (T436.setTop (mkF m 222 #[.val (.int p0), .val (.int p1), .val (.int p2), .val (.int p3), .val (.int p4), .val (.int p5), .val (.int per), .val (.int l1), .val (.int m1), .val (.int ph1), .val (.int w1), .val (.int l2), .val (.int m2), .val (.int ph2), .val (.int w2), .val (.ref b416), .unset, .unset, .unset, .unset, .unset, .unset, .unset, .unset, .unset, .unset] [(.ref b436), (.ref b436), (.ref b416)]))
              refine OGets.step (fun _ => XS.iload X436.here hx rfl (hb hby at_222) rfl) ?_
              refine OGets.step (fun _ => XS.iload X436.here hx rfl (hb hby at_224) rfl) ?_
              refine OGets.step (fun _ => XS.iload X436.here hx rfl (hb hby at_226) rfl) ?_
              refine OGets.step (fun _ => XS.iload X436.here hx rfl (hb hby at_228) rfl) ?_
              refine OGets.step (fun _ => XS.iload X436.here hx rfl (hb hby at_230) rfl) ?_
              obtain ⟨_, _, ⟨T437, L437, k437, n437⟩, -, X437, ⟨Lc437, hQ437, l437, y437, z437⟩, st437⟩ := X436.specialBack hx (y := (⟨"com/example/pelt/pelt/Strand", "<init>", "(IIIII)V"⟩ : MethodName)) rfl hown (mvT hZ (hw _ (List.mem_of_getElem? (i := 32) rfl))) (mvT hZ (hw _ (List.mem_of_getElem? (i := 33) rfl))) (mvT hZ (hw _ (List.mem_of_getElem? (i := 34) rfl))) (by decide) (backOf (W := 2) (rm_sin l Z a0 hw [] b436 l2 m2 per ph2 w2 h436 n0 (oX ax435 [(.ref b416), (.ref b433)] :: oC b416 [(.int per), (.ref au417), (.ref ac417), (.ref ab417), (.ref ay417), (.int 5)] :: oA ac417 Cq435 :: oS b433 [(.int l1), (.int m1), (.int per), (.int ph1), (.int w1)] :: oA ab417 Bq435 :: oA au417 Uq432 :: oJ ay417 Yq432 :: []) Z436  V436) hZ (hw _ (List.mem_of_getElem? (i := 34) rfl)) (hw _ (List.mem_of_getElem? (i := 31) rfl)) (by decide) (by decide)) (g := (mkF m 232 #[.val (.int p0), .val (.int p1), .val (.int p2), .val (.int p3), .val (.int p4), .val (.int p5), .val (.int per), .val (.int l1), .val (.int m1), .val (.int ph1), .val (.int w1), .val (.int l2), .val (.int m2), .val (.int ph2), .val (.int w2), .val (.ref b416), .unset, .unset, .unset, .unset, .unset, .unset, .unset, .unset, .unset, .unset] [(.int w2), (.int ph2), (.int per), (.int m2), (.int l2), (.ref b436), (.ref b436), (.ref b416)])) rfl (by rw [hml]; rfl) (Steps.refl _) (a := b436) (argsL := [(.int l2), (.int m2), (.int per), (.int ph2), (.int w2)]) (rest := [(.ref b436), (.ref b416)]) (lenOf pd_15 rfl) rfl (by show 2 * 0 + _ ≤ _; exact Nat.le_of_eq rfl) (hb hby at_232) (fun _ _ => ⟨rfl, e436, Nat.le_of_ble_eq_true rfl, Nat.le_of_ble_eq_true rfl⟩)
              dsimp only [Pt.U, Pt.locs, Pt.cells, Pt.slots] at X437 l437 y437 z437 st437 hQ437
              rw [l437, y437, z437] at X437
              obtain ⟨rfl, N437q, V437⟩ := hQ437
              have N437 := Fr.app N435 N437q
              have V437v : OView Z n0 T437.heap (oS b436 [(.int l2), (.int m2), (.int per), (.int ph2), (.int w2)] :: oX ax435 [(.ref b416), (.ref b433)] :: oC b416 [(.int per), (.ref au417), (.ref ac417), (.ref ab417), (.ref ay417), (.int 5)] :: oA ac417 Cq435 :: oS b433 [(.int l1), (.int m1), (.int per), (.int ph1), (.int w1)] :: oA ab417 Bq435 :: oA au417 Uq432 :: oJ ay417 Yq432 :: []) := V437
              have Z437 : n0 ≤ T437.heap.size := V437v.big 0 rfl
              refine OGets.after st437 ?_
              have V438_ : OView Z _ T437.heap (oC b416 [(.int per), (.ref au417), (.ref ac417), (.ref ab417), (.ref ay417), (.int 5)] :: oA ac417 Cq435 :: oS b436 [(.int l2), (.int m2), (.int per), (.int ph2), (.int w2)] :: oA ab417 Bq435 :: oX ax435 [(.ref b416), (.ref b433)] :: oS b433 [(.int l1), (.int m1), (.int per), (.int ph1), (.int w1)] :: oA au417 Uq432 :: oJ ay417 Yq432 :: []) := ((((V437v.bring 5 rfl).bring 1 rfl).bring 4 rfl).bring 4 rfl)
              obtain ⟨cq438, kq438, q438a, q438b, q438c⟩ := isOf hZ rfl (V438_.exa 0 rfl)
              obtain ⟨_, _, ⟨T438, L438, k438, n438⟩, -, X438, ⟨Lc438, hQ438, l438, y438, z438⟩, st438⟩ := X437.virtualBack hx (y := (⟨"com/example/pelt/pelt/StackCounts", "cover", "(Lcom/example/pelt/pelt/Strand;)V"⟩ : MethodName)) (z := (⟨"com/example/pelt/pelt/StackCounts", "cover", "(Lcom/example/pelt/pelt/Strand;)V"⟩ : MethodName)) hown (mvT hZ (hw _ (List.mem_of_getElem? (i := 51) rfl))) (mvT hZ (hw _ (List.mem_of_getElem? (i := 52) rfl))) (notFace_of_selects (args := #[]) (mvT hZ (hw _ (List.mem_of_getElem? (i := 54) rfl)))) (mvT hZ (hw _ (List.mem_of_getElem? (i := 54) rfl))) (mvT hZ (hw _ (List.mem_of_getElem? (i := 53) rfl))) (by decide) (backOf (W := 0) (rm_covB l Z a0 hw [] b416 b436 au417 ac417 ab417 ay417 l2 m2 per ph2 w2 (5 : Int32) Cq435 Bq435 T437.heap n0 (oX ax435 [(.ref b416), (.ref b433)] :: oS b433 [(.int l1), (.int m1), (.int per), (.int ph1), (.int w1)] :: oA au417 Uq432 :: oJ ay417 Yq432 :: []) Z437 D2 hB (by simp only [List.length_replicate, lCq435]) (by simp only [List.length_replicate, lBq435]) V438_) hZ (hw _ (List.mem_of_getElem? (i := 55) rfl)) (hw _ (List.mem_of_getElem? (i := 4) rfl)) (by decide) (by decide)) q438a q438c (g := (mkF m 235 #[.val (.int p0), .val (.int p1), .val (.int p2), .val (.int p3), .val (.int p4), .val (.int p5), .val (.int per), .val (.int l1), .val (.int m1), .val (.int ph1), .val (.int w1), .val (.int l2), .val (.int m2), .val (.int ph2), .val (.int w2), .val (.ref b416), .unset, .unset, .unset, .unset, .unset, .unset, .unset, .unset, .unset, .unset] [(.ref b436), (.ref b416)])) rfl (by rw [hml]; rfl) (Steps.refl _) (argsL := [(.ref b436)]) (rest := []) (lenOf pd_16 rfl) rfl (by show 2 * 0 + _ ≤ _; exact Nat.le_of_eq rfl) (hb hby at_235) (fun _ _ => ⟨rfl, rfl, Nat.le_of_ble_eq_true rfl, Nat.le_of_ble_eq_true rfl⟩)
              dsimp only [Pt.U, Pt.locs, Pt.cells, Pt.slots] at X438 l438 y438 z438 st438 hQ438
              rw [l438, y438, z438] at X438
              obtain ⟨rfl, N438q, ax438, V438⟩ := hQ438
              have N438 := Fr.app N437 N438q
              have V438v : OView Z n0 T438.heap (oX ax438 [(.ref b416), (.ref b436)] :: oC b416 [(.int per), (.ref au417), (.ref ac417), (.ref ab417), (.ref ay417), (.int 5)] :: oA ac417 (spB per l2 m2 ph2 w2 Cq435 Bq435).1 :: oS b436 [(.int l2), (.int m2), (.int per), (.int ph2), (.int w2)] :: oA ab417 (spB per l2 m2 ph2 w2 Cq435 Bq435).2 :: oX ax435 [(.ref b416), (.ref b433)] :: oS b433 [(.int l1), (.int m1), (.int per), (.int ph1), (.int w1)] :: oA au417 Uq432 :: oJ ay417 Yq432 :: []) := V438
              obtain ⟨Cq438, hCq438⟩ : ∃ z, z = (spB per l2 m2 ph2 w2 Cq435 Bq435).1 := ⟨_, rfl⟩
              rw [← hCq438] at V438v
              have lCq438 : Cq438.length = 5 := by rw [hCq438]; simp only [spB_len1, lCq435]
              obtain ⟨Bq438, hBq438⟩ : ∃ z, z = (spB per l2 m2 ph2 w2 Cq435 Bq435).2 := ⟨_, rfl⟩
              rw [← hBq438] at V438v
              have lBq438 : Bq438.length = 5 := by rw [hBq438]; simp only [spB_len2, lBq435]
              have Z438 : n0 ≤ T438.heap.size := V438v.big 0 rfl
              refine OGets.after st438 ?_
              show OGets p e below _ (T438.setTop (mkF m 238 #[.val (.int p0), .val (.int p1), .val (.int p2), .val (.int p3), .val (.int p4), .val (.int p5), .val (.int per), .val (.int l1), .val (.int m1), .val (.int ph1), .val (.int w1), .val (.int l2), .val (.int m2), .val (.int ph2), .val (.int w2), .val (.ref b416), .unset, .unset, .unset, .unset, .unset, .unset, .unset, .unset, .unset, .unset] []))
              refine OGets.step (fun _ => XS.aload X438.here hx rfl (hb hby at_238) rfl rfl) ?_
              have V439_ : OView Z _ T438.heap (oC b416 [(.int per), (.ref au417), (.ref ac417), (.ref ab417), (.ref ay417), (.int 5)] :: oA ac417 Cq438 :: oA ab417 Bq438 :: oX ax438 [(.ref b416), (.ref b436)] :: oS b436 [(.int l2), (.int m2), (.int per), (.int ph2), (.int w2)] :: oX ax435 [(.ref b416), (.ref b433)] :: oS b433 [(.int l1), (.int m1), (.int per), (.int ph1), (.int w1)] :: oA au417 Uq432 :: oJ ay417 Yq432 :: []) := (((V438v.bring 4 rfl).bring 3 rfl).bring 3 rfl)
              obtain ⟨cq439, kq439, q439a, q439b, q439c⟩ := isOf hZ rfl (V439_.exa 0 rfl)
              obtain ⟨_, _, ⟨T439, L439, k439, n439⟩, -, X439, ⟨Lc439, hQ439, l439, y439, z439⟩, st439⟩ := X438.virtualBack hx (y := (⟨"com/example/pelt/pelt/StackCounts", "pop", "()Z"⟩ : MethodName)) (z := (⟨"com/example/pelt/pelt/StackCounts", "pop", "()Z"⟩ : MethodName)) hown (mvT hZ (hw _ (List.mem_of_getElem? (i := 72) rfl))) (mvT hZ (hw _ (List.mem_of_getElem? (i := 73) rfl))) (notFace_of_selects (args := #[]) (mvT hZ (hw _ (List.mem_of_getElem? (i := 75) rfl)))) (mvT hZ (hw _ (List.mem_of_getElem? (i := 75) rfl))) (mvT hZ (hw _ (List.mem_of_getElem? (i := 74) rfl))) (by decide) (backOf (W := 0) (rm_popB l Z a0 hw [] ab417 ay417 b416 au417 ac417 per (5 : Int32) Cq438 Bq438 T438.heap n0 (oX ax438 [(.ref b416), (.ref b436)] :: oS b436 [(.int l2), (.int m2), (.int per), (.int ph2), (.int w2)] :: oX ax435 [(.ref b416), (.ref b433)] :: oS b433 [(.int l1), (.int m1), (.int per), (.int ph1), (.int w1)] :: oA au417 Uq432 :: oJ ay417 Yq432 :: []) Z438 (by simp only [List.length_replicate, lCq438]) (by decide) (by decide) (by simp only [List.length_replicate, lBq438]) (own_h2 hB (by decide)) V439_) hZ (hw _ (List.mem_of_getElem? (i := 76) rfl)) (hw _ (List.mem_of_getElem? (i := 4) rfl)) (by decide) (by decide)) q439a q439c (g := (mkF m 240 #[.val (.int p0), .val (.int p1), .val (.int p2), .val (.int p3), .val (.int p4), .val (.int p5), .val (.int per), .val (.int l1), .val (.int m1), .val (.int ph1), .val (.int w1), .val (.int l2), .val (.int m2), .val (.int ph2), .val (.int w2), .val (.ref b416), .unset, .unset, .unset, .unset, .unset, .unset, .unset, .unset, .unset, .unset] [(.ref b416)])) rfl (by rw [hml]; rfl) (Steps.refl _) (argsL := []) (rest := []) (lenOf pd_17 rfl) rfl (by show 2 * 0 + _ ≤ _; exact Nat.le_of_eq rfl) (hb hby at_240) (fun _ _ => ⟨rfl, rfl, Nat.le_of_ble_eq_true rfl, Nat.le_of_ble_eq_true rfl⟩)
              dsimp only [Pt.U, Pt.locs, Pt.cells, Pt.slots] at X439 l439 y439 z439 st439 hQ439
              rw [l439, y439, z439] at X439
              obtain ⟨rfl, N439q, V439⟩ := hQ439
              have N439 := Fr.app N438 N439q
              have V439v : OView Z n0 T439.heap (oC b416 [(.int per), (.ref au417), (.ref ac417), (.ref ab417), (.ref ay417), (.int 4)] :: oA ac417 (poC (poA Cq438 Bq438 (4 : Int32)) (4 : Int32)) :: oA ab417 (poB Bq438 per (4 : Int32)) :: oX ax438 [(.ref b416), (.ref b436)] :: oS b436 [(.int l2), (.int m2), (.int per), (.int ph2), (.int w2)] :: oX ax435 [(.ref b416), (.ref b433)] :: oS b433 [(.int l1), (.int m1), (.int per), (.int ph1), (.int w1)] :: oA au417 Uq432 :: oJ ay417 Yq432 :: []) := V439
              obtain ⟨Cq439, hCq439⟩ : ∃ z, z = (poC (poA Cq438 Bq438 (4 : Int32)) (4 : Int32)) := ⟨_, rfl⟩
              rw [← hCq439] at V439v
              have lCq439 : Cq439.length = 5 := by rw [hCq439]; simp only [poC_len, poA_len, lCq438]
              obtain ⟨Bq439, hBq439⟩ : ∃ z, z = (poB Bq438 per (4 : Int32)) := ⟨_, rfl⟩
              rw [← hBq439] at V439v
              have lBq439 : Bq439.length = 5 := by rw [hBq439]; simp only [poB_len, lBq438]
              have Z439 : n0 ≤ T439.heap.size := V439v.big 0 rfl
              refine OGets.after st439 ?_
              refine OGets.step (fun _ => XS.istore X439.here hx rfl (hb hby at_243) rfl (l' := #[.val (.int p0), .val (.int p1), .val (.int p2), .val (.int p3), .val (.int p4), .val (.int p5), .val (.int per), .val (.int l1), .val (.int m1), .val (.int ph1), .val (.int w1), .val (.int l2), .val (.int m2), .val (.int ph2), .val (.int w2), .val (.ref b416), .val (.int (poV (poA Cq438 Bq438 (4 : Int32)) (4 : Int32))), .unset, .unset, .unset, .unset, .unset, .unset, .unset, .unset, .unset]) rfl) ?_
              refine OGets.step (fun _ => XS.aload X439.here hx rfl (hb hby at_245) rfl rfl) ?_
              obtain ⟨cq440, kq440, q440a, q440b, q440c⟩ := isOf hZ rfl (V439v.exa 0 rfl)
              obtain ⟨_, _, ⟨T440, L440, k440, n440⟩, -, X440, ⟨Lc440, hQ440, l440, y440, z440⟩, st440⟩ := X439.virtualBack hx (y := (⟨"com/example/pelt/pelt/StackCounts", "pop", "()Z"⟩ : MethodName)) (z := (⟨"com/example/pelt/pelt/StackCounts", "pop", "()Z"⟩ : MethodName)) hown (mvT hZ (hw _ (List.mem_of_getElem? (i := 72) rfl))) (mvT hZ (hw _ (List.mem_of_getElem? (i := 73) rfl))) (notFace_of_selects (args := #[]) (mvT hZ (hw _ (List.mem_of_getElem? (i := 75) rfl)))) (mvT hZ (hw _ (List.mem_of_getElem? (i := 75) rfl))) (mvT hZ (hw _ (List.mem_of_getElem? (i := 74) rfl))) (by decide) (backOf (W := 0) (rm_popB l Z a0 hw [] ab417 ay417 b416 au417 ac417 per (4 : Int32) Cq439 Bq439 T439.heap n0 (oX ax438 [(.ref b416), (.ref b436)] :: oS b436 [(.int l2), (.int m2), (.int per), (.int ph2), (.int w2)] :: oX ax435 [(.ref b416), (.ref b433)] :: oS b433 [(.int l1), (.int m1), (.int per), (.int ph1), (.int w1)] :: oA au417 Uq432 :: oJ ay417 Yq432 :: []) Z439 (by simp only [List.length_replicate, lCq439]) (by decide) (by decide) (by simp only [List.length_replicate, lBq439]) (own_h2 hB (by decide)) V439v) hZ (hw _ (List.mem_of_getElem? (i := 76) rfl)) (hw _ (List.mem_of_getElem? (i := 4) rfl)) (by decide) (by decide)) q440a q440c (g := (mkF m 247 #[.val (.int p0), .val (.int p1), .val (.int p2), .val (.int p3), .val (.int p4), .val (.int p5), .val (.int per), .val (.int l1), .val (.int m1), .val (.int ph1), .val (.int w1), .val (.int l2), .val (.int m2), .val (.int ph2), .val (.int w2), .val (.ref b416), .val (.int (poV (poA Cq438 Bq438 (4 : Int32)) (4 : Int32))), .unset, .unset, .unset, .unset, .unset, .unset, .unset, .unset, .unset] [(.ref b416)])) rfl (by rw [hml]; rfl) (Steps.refl _) (argsL := []) (rest := []) (lenOf pd_17 rfl) rfl (by show 2 * 0 + _ ≤ _; exact Nat.le_of_eq rfl) (hb hby at_247) (fun _ _ => ⟨rfl, rfl, Nat.le_of_ble_eq_true rfl, Nat.le_of_ble_eq_true rfl⟩)
              dsimp only [Pt.U, Pt.locs, Pt.cells, Pt.slots] at X440 l440 y440 z440 st440 hQ440
              rw [l440, y440, z440] at X440
              obtain ⟨rfl, N440q, V440⟩ := hQ440
              have N440 := Fr.app N439 N440q
              have V440v : OView Z n0 T440.heap (oC b416 [(.int per), (.ref au417), (.ref ac417), (.ref ab417), (.ref ay417), (.int 3)] :: oA ac417 (poC (poA Cq439 Bq439 (3 : Int32)) (3 : Int32)) :: oA ab417 (poB Bq439 per (3 : Int32)) :: oX ax438 [(.ref b416), (.ref b436)] :: oS b436 [(.int l2), (.int m2), (.int per), (.int ph2), (.int w2)] :: oX ax435 [(.ref b416), (.ref b433)] :: oS b433 [(.int l1), (.int m1), (.int per), (.int ph1), (.int w1)] :: oA au417 Uq432 :: oJ ay417 Yq432 :: []) := V440
              obtain ⟨Cq440, hCq440⟩ : ∃ z, z = (poC (poA Cq439 Bq439 (3 : Int32)) (3 : Int32)) := ⟨_, rfl⟩
              rw [← hCq440] at V440v
              have lCq440 : Cq440.length = 5 := by rw [hCq440]; simp only [poC_len, poA_len, lCq439]
              obtain ⟨Bq440, hBq440⟩ : ∃ z, z = (poB Bq439 per (3 : Int32)) := ⟨_, rfl⟩
              rw [← hBq440] at V440v
              have lBq440 : Bq440.length = 5 := by rw [hBq440]; simp only [poB_len, lBq439]
              have Z440 : n0 ≤ T440.heap.size := V440v.big 0 rfl
              refine OGets.after st440 ?_
              refine OGets.step (fun _ => XS.istore X440.here hx rfl (hb hby at_250) rfl (l' := #[.val (.int p0), .val (.int p1), .val (.int p2), .val (.int p3), .val (.int p4), .val (.int p5), .val (.int per), .val (.int l1), .val (.int m1), .val (.int ph1), .val (.int w1), .val (.int l2), .val (.int m2), .val (.int ph2), .val (.int w2), .val (.ref b416), .val (.int (poV (poA Cq438 Bq438 (4 : Int32)) (4 : Int32))), .val (.int (poV (poA Cq439 Bq439 (3 : Int32)) (3 : Int32))), .unset, .unset, .unset, .unset, .unset, .unset, .unset, .unset]) rfl) ?_
              refine OGets.step (fun _ => XS.aload X440.here hx rfl (hb hby at_252) rfl rfl) ?_
              show OGets p e below _ (T440.setTop (mkF m 254 #[.val (.int p0), .val (.int p1), .val (.int p2), .val (.int p3), .val (.int p4), .val (.int p5), .val (.int per), .val (.int l1), .val (.int m1), .val (.int ph1), .val (.int w1), .val (.int l2), .val (.int m2), .val (.int ph2), .val (.int w2), .val (.ref b416), .val (.int (poV (poA Cq438 Bq438 (4 : Int32)) (4 : Int32))), .val (.int (poV (poA Cq439 Bq439 (3 : Int32)) (3 : Int32))), .unset, .unset, .unset, .unset, .unset, .unset, .unset, .unset] [(.ref b416)]))
              obtain ⟨cq441, kq441, q441a, q441b, q441c⟩ := isOf hZ rfl (V440v.exa 0 rfl)
              obtain ⟨_, _, ⟨T441, L441, k441, n441⟩, -, X441, ⟨Lc441, hQ441, l441, y441, z441⟩, st441⟩ := X440.virtualBack hx (y := (⟨"com/example/pelt/pelt/StackCounts", "pop", "()Z"⟩ : MethodName)) (z := (⟨"com/example/pelt/pelt/StackCounts", "pop", "()Z"⟩ : MethodName)) hown (mvT hZ (hw _ (List.mem_of_getElem? (i := 72) rfl))) (mvT hZ (hw _ (List.mem_of_getElem? (i := 73) rfl))) (notFace_of_selects (args := #[]) (mvT hZ (hw _ (List.mem_of_getElem? (i := 75) rfl)))) (mvT hZ (hw _ (List.mem_of_getElem? (i := 75) rfl))) (mvT hZ (hw _ (List.mem_of_getElem? (i := 74) rfl))) (by decide) (backOf (W := 0) (rm_popB l Z a0 hw [] ab417 ay417 b416 au417 ac417 per (3 : Int32) Cq440 Bq440 T440.heap n0 (oX ax438 [(.ref b416), (.ref b436)] :: oS b436 [(.int l2), (.int m2), (.int per), (.int ph2), (.int w2)] :: oX ax435 [(.ref b416), (.ref b433)] :: oS b433 [(.int l1), (.int m1), (.int per), (.int ph1), (.int w1)] :: oA au417 Uq432 :: oJ ay417 Yq432 :: []) Z440 (by simp only [List.length_replicate, lCq440]) (by decide) (by decide) (by simp only [List.length_replicate, lBq440]) (own_h2 hB (by decide)) V440v) hZ (hw _ (List.mem_of_getElem? (i := 76) rfl)) (hw _ (List.mem_of_getElem? (i := 4) rfl)) (by decide) (by decide)) q441a q441c (g := (mkF m 254 #[.val (.int p0), .val (.int p1), .val (.int p2), .val (.int p3), .val (.int p4), .val (.int p5), .val (.int per), .val (.int l1), .val (.int m1), .val (.int ph1), .val (.int w1), .val (.int l2), .val (.int m2), .val (.int ph2), .val (.int w2), .val (.ref b416), .val (.int (poV (poA Cq438 Bq438 (4 : Int32)) (4 : Int32))), .val (.int (poV (poA Cq439 Bq439 (3 : Int32)) (3 : Int32))), .unset, .unset, .unset, .unset, .unset, .unset, .unset, .unset] [(.ref b416)])) rfl (by rw [hml]; rfl) (Steps.refl _) (argsL := []) (rest := []) (lenOf pd_17 rfl) rfl (by show 2 * 0 + _ ≤ _; exact Nat.le_of_eq rfl) (hb hby at_254) (fun _ _ => ⟨rfl, rfl, Nat.le_of_ble_eq_true rfl, Nat.le_of_ble_eq_true rfl⟩)
              dsimp only [Pt.U, Pt.locs, Pt.cells, Pt.slots] at X441 l441 y441 z441 st441 hQ441
              rw [l441, y441, z441] at X441
              obtain ⟨rfl, N441q, V441⟩ := hQ441
              have N441 := Fr.app N440 N441q
              have V441v : OView Z n0 T441.heap (oC b416 [(.int per), (.ref au417), (.ref ac417), (.ref ab417), (.ref ay417), (.int 2)] :: oA ac417 (poC (poA Cq440 Bq440 (2 : Int32)) (2 : Int32)) :: oA ab417 (poB Bq440 per (2 : Int32)) :: oX ax438 [(.ref b416), (.ref b436)] :: oS b436 [(.int l2), (.int m2), (.int per), (.int ph2), (.int w2)] :: oX ax435 [(.ref b416), (.ref b433)] :: oS b433 [(.int l1), (.int m1), (.int per), (.int ph1), (.int w1)] :: oA au417 Uq432 :: oJ ay417 Yq432 :: []) := V441
              obtain ⟨Cq441, hCq441⟩ : ∃ z, z = (poC (poA Cq440 Bq440 (2 : Int32)) (2 : Int32)) := ⟨_, rfl⟩
              rw [← hCq441] at V441v
              have lCq441 : Cq441.length = 5 := by rw [hCq441]; simp only [poC_len, poA_len, lCq440]
              obtain ⟨Bq441, hBq441⟩ : ∃ z, z = (poB Bq440 per (2 : Int32)) := ⟨_, rfl⟩
              rw [← hBq441] at V441v
              have lBq441 : Bq441.length = 5 := by rw [hBq441]; simp only [poB_len, lBq440]
              have Z441 : n0 ≤ T441.heap.size := V441v.big 0 rfl
              refine OGets.after st441 ?_
              refine OGets.step (fun _ => XS.istore X441.here hx rfl (hb hby at_257) rfl (l' := #[.val (.int p0), .val (.int p1), .val (.int p2), .val (.int p3), .val (.int p4), .val (.int p5), .val (.int per), .val (.int l1), .val (.int m1), .val (.int ph1), .val (.int w1), .val (.int l2), .val (.int m2), .val (.int ph2), .val (.int w2), .val (.ref b416), .val (.int (poV (poA Cq438 Bq438 (4 : Int32)) (4 : Int32))), .val (.int (poV (poA Cq439 Bq439 (3 : Int32)) (3 : Int32))), .val (.int (poV (poA Cq440 Bq440 (2 : Int32)) (2 : Int32))), .unset, .unset, .unset, .unset, .unset, .unset, .unset]) rfl) ?_
              refine OGets.step (fun _ => XS.aload X441.here hx rfl (hb hby at_259) rfl rfl) ?_
              obtain ⟨cq442, kq442, q442a, q442b, q442c⟩ := isOf hZ rfl (V441v.exa 0 rfl)
              obtain ⟨_, _, ⟨T442, L442, k442, n442⟩, -, X442, ⟨Lc442, hQ442, l442, y442, z442⟩, st442⟩ := X441.virtualBack hx (y := (⟨"com/example/pelt/pelt/StackCounts", "pop", "()Z"⟩ : MethodName)) (z := (⟨"com/example/pelt/pelt/StackCounts", "pop", "()Z"⟩ : MethodName)) hown (mvT hZ (hw _ (List.mem_of_getElem? (i := 72) rfl))) (mvT hZ (hw _ (List.mem_of_getElem? (i := 73) rfl))) (notFace_of_selects (args := #[]) (mvT hZ (hw _ (List.mem_of_getElem? (i := 75) rfl)))) (mvT hZ (hw _ (List.mem_of_getElem? (i := 75) rfl))) (mvT hZ (hw _ (List.mem_of_getElem? (i := 74) rfl))) (by decide) (backOf (W := 0) (rm_popB l Z a0 hw [] ab417 ay417 b416 au417 ac417 per (2 : Int32) Cq441 Bq441 T441.heap n0 (oX ax438 [(.ref b416), (.ref b436)] :: oS b436 [(.int l2), (.int m2), (.int per), (.int ph2), (.int w2)] :: oX ax435 [(.ref b416), (.ref b433)] :: oS b433 [(.int l1), (.int m1), (.int per), (.int ph1), (.int w1)] :: oA au417 Uq432 :: oJ ay417 Yq432 :: []) Z441 (by simp only [List.length_replicate, lCq441]) (by decide) (by decide) (by simp only [List.length_replicate, lBq441]) (own_h2 hB (by decide)) V441v) hZ (hw _ (List.mem_of_getElem? (i := 76) rfl)) (hw _ (List.mem_of_getElem? (i := 4) rfl)) (by decide) (by decide)) q442a q442c (g := (mkF m 261 #[.val (.int p0), .val (.int p1), .val (.int p2), .val (.int p3), .val (.int p4), .val (.int p5), .val (.int per), .val (.int l1), .val (.int m1), .val (.int ph1), .val (.int w1), .val (.int l2), .val (.int m2), .val (.int ph2), .val (.int w2), .val (.ref b416), .val (.int (poV (poA Cq438 Bq438 (4 : Int32)) (4 : Int32))), .val (.int (poV (poA Cq439 Bq439 (3 : Int32)) (3 : Int32))), .val (.int (poV (poA Cq440 Bq440 (2 : Int32)) (2 : Int32))), .unset, .unset, .unset, .unset, .unset, .unset, .unset] [(.ref b416)])) rfl (by rw [hml]; rfl) (Steps.refl _) (argsL := []) (rest := []) (lenOf pd_17 rfl) rfl (by show 2 * 0 + _ ≤ _; exact Nat.le_of_eq rfl) (hb hby at_261) (fun _ _ => ⟨rfl, rfl, Nat.le_of_ble_eq_true rfl, Nat.le_of_ble_eq_true rfl⟩)
              dsimp only [Pt.U, Pt.locs, Pt.cells, Pt.slots] at X442 l442 y442 z442 st442 hQ442
              rw [l442, y442, z442] at X442
              obtain ⟨rfl, N442q, V442⟩ := hQ442
              have N442 := Fr.app N441 N442q
              have V442v : OView Z n0 T442.heap (oC b416 [(.int per), (.ref au417), (.ref ac417), (.ref ab417), (.ref ay417), (.int 1)] :: oA ac417 (poC (poA Cq441 Bq441 (1 : Int32)) (1 : Int32)) :: oA ab417 (poB Bq441 per (1 : Int32)) :: oX ax438 [(.ref b416), (.ref b436)] :: oS b436 [(.int l2), (.int m2), (.int per), (.int ph2), (.int w2)] :: oX ax435 [(.ref b416), (.ref b433)] :: oS b433 [(.int l1), (.int m1), (.int per), (.int ph1), (.int w1)] :: oA au417 Uq432 :: oJ ay417 Yq432 :: []) := V442
              obtain ⟨Cq442, hCq442⟩ : ∃ z, z = (poC (poA Cq441 Bq441 (1 : Int32)) (1 : Int32)) := ⟨_, rfl⟩
              rw [← hCq442] at V442v
              have lCq442 : Cq442.length = 5 := by rw [hCq442]; simp only [poC_len, poA_len, lCq441]
              obtain ⟨Bq442, hBq442⟩ : ∃ z, z = (poB Bq441 per (1 : Int32)) := ⟨_, rfl⟩
              rw [← hBq442] at V442v
              have lBq442 : Bq442.length = 5 := by rw [hBq442]; simp only [poB_len, lBq441]
              have Z442 : n0 ≤ T442.heap.size := V442v.big 0 rfl
              refine OGets.after st442 ?_
              refine OGets.step (fun _ => XS.istore X442.here hx rfl (hb hby at_264) rfl (l' := #[.val (.int p0), .val (.int p1), .val (.int p2), .val (.int p3), .val (.int p4), .val (.int p5), .val (.int per), .val (.int l1), .val (.int m1), .val (.int ph1), .val (.int w1), .val (.int l2), .val (.int m2), .val (.int ph2), .val (.int w2), .val (.ref b416), .val (.int (poV (poA Cq438 Bq438 (4 : Int32)) (4 : Int32))), .val (.int (poV (poA Cq439 Bq439 (3 : Int32)) (3 : Int32))), .val (.int (poV (poA Cq440 Bq440 (2 : Int32)) (2 : Int32))), .val (.int (poV (poA Cq441 Bq441 (1 : Int32)) (1 : Int32))), .unset, .unset, .unset, .unset, .unset, .unset]) rfl) ?_
              refine OGets.step (fun _ => XS.aload X442.here hx rfl (hb hby at_266) rfl rfl) ?_
              obtain ⟨cq443, kq443, q443a, q443b, q443c⟩ := isOf hZ rfl (V442v.exa 0 rfl)
              obtain ⟨_, _, ⟨T443, L443, k443, n443⟩, -, X443, ⟨Lc443, hQ443, l443, y443, z443⟩, st443⟩ := X442.virtualBack hx (y := (⟨"com/example/pelt/pelt/StackCounts", "pop", "()Z"⟩ : MethodName)) (z := (⟨"com/example/pelt/pelt/StackCounts", "pop", "()Z"⟩ : MethodName)) hown (mvT hZ (hw _ (List.mem_of_getElem? (i := 72) rfl))) (mvT hZ (hw _ (List.mem_of_getElem? (i := 73) rfl))) (notFace_of_selects (args := #[]) (mvT hZ (hw _ (List.mem_of_getElem? (i := 75) rfl)))) (mvT hZ (hw _ (List.mem_of_getElem? (i := 75) rfl))) (mvT hZ (hw _ (List.mem_of_getElem? (i := 74) rfl))) (by decide) (backOf (W := 0) (rm_popB l Z a0 hw [] ab417 ay417 b416 au417 ac417 per (1 : Int32) Cq442 Bq442 T442.heap n0 (oX ax438 [(.ref b416), (.ref b436)] :: oS b436 [(.int l2), (.int m2), (.int per), (.int ph2), (.int w2)] :: oX ax435 [(.ref b416), (.ref b433)] :: oS b433 [(.int l1), (.int m1), (.int per), (.int ph1), (.int w1)] :: oA au417 Uq432 :: oJ ay417 Yq432 :: []) Z442 (by simp only [List.length_replicate, lCq442]) (by decide) (by decide) (by simp only [List.length_replicate, lBq442]) (own_h2 hB (by decide)) V442v) hZ (hw _ (List.mem_of_getElem? (i := 76) rfl)) (hw _ (List.mem_of_getElem? (i := 4) rfl)) (by decide) (by decide)) q443a q443c (g := (mkF m 268 #[.val (.int p0), .val (.int p1), .val (.int p2), .val (.int p3), .val (.int p4), .val (.int p5), .val (.int per), .val (.int l1), .val (.int m1), .val (.int ph1), .val (.int w1), .val (.int l2), .val (.int m2), .val (.int ph2), .val (.int w2), .val (.ref b416), .val (.int (poV (poA Cq438 Bq438 (4 : Int32)) (4 : Int32))), .val (.int (poV (poA Cq439 Bq439 (3 : Int32)) (3 : Int32))), .val (.int (poV (poA Cq440 Bq440 (2 : Int32)) (2 : Int32))), .val (.int (poV (poA Cq441 Bq441 (1 : Int32)) (1 : Int32))), .unset, .unset, .unset, .unset, .unset, .unset] [(.ref b416)])) rfl (by rw [hml]; rfl) (Steps.refl _) (argsL := []) (rest := []) (lenOf pd_17 rfl) rfl (by show 2 * 0 + _ ≤ _; exact Nat.le_of_eq rfl) (hb hby at_268) (fun _ _ => ⟨rfl, rfl, Nat.le_of_ble_eq_true rfl, Nat.le_of_ble_eq_true rfl⟩)
              dsimp only [Pt.U, Pt.locs, Pt.cells, Pt.slots] at X443 l443 y443 z443 st443 hQ443
              rw [l443, y443, z443] at X443
              obtain ⟨rfl, N443q, V443⟩ := hQ443
              have N443 := Fr.app N442 N443q
              have V443v : OView Z n0 T443.heap (oC b416 [(.int per), (.ref au417), (.ref ac417), (.ref ab417), (.ref ay417), (.int 0)] :: oA ac417 (poC (poA Cq442 Bq442 (0 : Int32)) (0 : Int32)) :: oA ab417 (poB Bq442 per (0 : Int32)) :: oX ax438 [(.ref b416), (.ref b436)] :: oS b436 [(.int l2), (.int m2), (.int per), (.int ph2), (.int w2)] :: oX ax435 [(.ref b416), (.ref b433)] :: oS b433 [(.int l1), (.int m1), (.int per), (.int ph1), (.int w1)] :: oA au417 Uq432 :: oJ ay417 Yq432 :: []) := V443
              obtain ⟨Cq443, hCq443⟩ : ∃ z, z = (poC (poA Cq442 Bq442 (0 : Int32)) (0 : Int32)) := ⟨_, rfl⟩
              rw [← hCq443] at V443v
              have lCq443 : Cq443.length = 5 := by rw [hCq443]; simp only [poC_len, poA_len, lCq442]
              obtain ⟨Bq443, hBq443⟩ : ∃ z, z = (poB Bq442 per (0 : Int32)) := ⟨_, rfl⟩
              rw [← hBq443] at V443v
              have lBq443 : Bq443.length = 5 := by rw [hBq443]; simp only [poB_len, lBq442]
              have Z443 : n0 ≤ T443.heap.size := V443v.big 0 rfl
              refine OGets.after st443 ?_
              show OGets p e below _ (T443.setTop (mkF m 271 #[.val (.int p0), .val (.int p1), .val (.int p2), .val (.int p3), .val (.int p4), .val (.int p5), .val (.int per), .val (.int l1), .val (.int m1), .val (.int ph1), .val (.int w1), .val (.int l2), .val (.int m2), .val (.int ph2), .val (.int w2), .val (.ref b416), .val (.int (poV (poA Cq438 Bq438 (4 : Int32)) (4 : Int32))), .val (.int (poV (poA Cq439 Bq439 (3 : Int32)) (3 : Int32))), .val (.int (poV (poA Cq440 Bq440 (2 : Int32)) (2 : Int32))), .val (.int (poV (poA Cq441 Bq441 (1 : Int32)) (1 : Int32))), .unset, .unset, .unset, .unset, .unset, .unset] [(.int (poV (poA Cq442 Bq442 (0 : Int32)) (0 : Int32)))]))
              refine OGets.step (fun _ => XS.istore X443.here hx rfl (hb hby at_271) rfl (l' := #[.val (.int p0), .val (.int p1), .val (.int p2), .val (.int p3), .val (.int p4), .val (.int p5), .val (.int per), .val (.int l1), .val (.int m1), .val (.int ph1), .val (.int w1), .val (.int l2), .val (.int m2), .val (.int ph2), .val (.int w2), .val (.ref b416), .val (.int (poV (poA Cq438 Bq438 (4 : Int32)) (4 : Int32))), .val (.int (poV (poA Cq439 Bq439 (3 : Int32)) (3 : Int32))), .val (.int (poV (poA Cq440 Bq440 (2 : Int32)) (2 : Int32))), .val (.int (poV (poA Cq441 Bq441 (1 : Int32)) (1 : Int32))), .val (.int (poV (poA Cq442 Bq442 (0 : Int32)) (0 : Int32))), .unset, .unset, .unset, .unset, .unset]) rfl) ?_
              have K444 : ∀ (T444 : State) (lj444 : List Loc), Stand p l e room_1 s m #[(.int p0), (.int p1), (.int p2), (.int p3), (.int p4), (.int p5)] below meth c T444 lj444 9 41 → Fr n0 lj444 → n0 ≤ T444.heap.size → OView Z n0 T444.heap (oC b416 [(.int per), (.ref au417), (.ref ac417), (.ref ab417), (.ref ay417), (.int 0)] :: oA ac417 Cq443 :: oA ab417 Bq443 :: oX ax438 [(.ref b416), (.ref b436)] :: oS b436 [(.int l2), (.int m2), (.int per), (.int ph2), (.int w2)] :: oX ax435 [(.ref b416), (.ref b433)] :: oS b433 [(.int l1), (.int m1), (.int per), (.int ph1), (.int w1)] :: oA au417 Uq432 :: oJ ay417 Yq432 :: []) → OGets p e below (OLeaves s (Q_law Z p0 p1 p2 p3 p4 p5 h0 n0 ) 32 192) (T444.setTop (mkF m 312 #[.val (.int p0), .val (.int p1), .val (.int p2), .val (.int p3), .val (.int p4), .val (.int p5), .val (.int per), .val (.int l1), .val (.int m1), .val (.int ph1), .val (.int w1), .val (.int l2), .val (.int m2), .val (.int ph2), .val (.int w2), .val (.ref b416), .val (.int (poV (poA Cq438 Bq438 (4 : Int32)) (4 : Int32))), .val (.int (poV (poA Cq439 Bq439 (3 : Int32)) (3 : Int32))), .val (.int (poV (poA Cq440 Bq440 (2 : Int32)) (2 : Int32))), .val (.int (poV (poA Cq441 Bq441 (1 : Int32)) (1 : Int32))), .val (.int (poV (poA Cq442 Bq442 (0 : Int32)) (0 : Int32))), .unset, .unset, .unset, .unset, .unset] [(.int (eF (4 : Int32) per l1 m1 ph1 w1 l2 m2 ph2 w2))])) := by
                intro T444 lj444 X444 N444 Z444 V444
                show OGets p e below _ (T444.setTop (mkF m 312 #[.val (.int p0), .val (.int p1), .val (.int p2), .val (.int p3), .val (.int p4), .val (.int p5), .val (.int per), .val (.int l1), .val (.int m1), .val (.int ph1), .val (.int w1), .val (.int l2), .val (.int m2), .val (.int ph2), .val (.int w2), .val (.ref b416), .val (.int (poV (poA Cq438 Bq438 (4 : Int32)) (4 : Int32))), .val (.int (poV (poA Cq439 Bq439 (3 : Int32)) (3 : Int32))), .val (.int (poV (poA Cq440 Bq440 (2 : Int32)) (2 : Int32))), .val (.int (poV (poA Cq441 Bq441 (1 : Int32)) (1 : Int32))), .val (.int (poV (poA Cq442 Bq442 (0 : Int32)) (0 : Int32))), .unset, .unset, .unset, .unset, .unset] [(.int (eF (4 : Int32) per l1 m1 ph1 w1 l2 m2 ph2 w2))]))
                refine OGets.step (fun _ => XS.istore X444.here hx rfl (hb hby at_312) rfl (l' := #[.val (.int p0), .val (.int p1), .val (.int p2), .val (.int p3), .val (.int p4), .val (.int p5), .val (.int per), .val (.int l1), .val (.int m1), .val (.int ph1), .val (.int w1), .val (.int l2), .val (.int m2), .val (.int ph2), .val (.int w2), .val (.ref b416), .val (.int (poV (poA Cq438 Bq438 (4 : Int32)) (4 : Int32))), .val (.int (poV (poA Cq439 Bq439 (3 : Int32)) (3 : Int32))), .val (.int (poV (poA Cq440 Bq440 (2 : Int32)) (2 : Int32))), .val (.int (poV (poA Cq441 Bq441 (1 : Int32)) (1 : Int32))), .val (.int (poV (poA Cq442 Bq442 (0 : Int32)) (0 : Int32))), .val (.int (eF (4 : Int32) per l1 m1 ph1 w1 l2 m2 ph2 w2)), .unset, .unset, .unset, .unset]) rfl) ?_
                have K445 : ∀ (T445 : State) (lj445 : List Loc), Stand p l e room_1 s m #[(.int p0), (.int p1), (.int p2), (.int p3), (.int p4), (.int p5)] below meth c T445 lj445 9 41 → Fr n0 lj445 → n0 ≤ T445.heap.size → OView Z n0 T445.heap (oC b416 [(.int per), (.ref au417), (.ref ac417), (.ref ab417), (.ref ay417), (.int 0)] :: oA ac417 Cq443 :: oA ab417 Bq443 :: oX ax438 [(.ref b416), (.ref b436)] :: oS b436 [(.int l2), (.int m2), (.int per), (.int ph2), (.int w2)] :: oX ax435 [(.ref b416), (.ref b433)] :: oS b433 [(.int l1), (.int m1), (.int per), (.int ph1), (.int w1)] :: oA au417 Uq432 :: oJ ay417 Yq432 :: []) → OGets p e below (OLeaves s (Q_law Z p0 p1 p2 p3 p4 p5 h0 n0 ) 32 192) (T445.setTop (mkF m 353 #[.val (.int p0), .val (.int p1), .val (.int p2), .val (.int p3), .val (.int p4), .val (.int p5), .val (.int per), .val (.int l1), .val (.int m1), .val (.int ph1), .val (.int w1), .val (.int l2), .val (.int m2), .val (.int ph2), .val (.int w2), .val (.ref b416), .val (.int (poV (poA Cq438 Bq438 (4 : Int32)) (4 : Int32))), .val (.int (poV (poA Cq439 Bq439 (3 : Int32)) (3 : Int32))), .val (.int (poV (poA Cq440 Bq440 (2 : Int32)) (2 : Int32))), .val (.int (poV (poA Cq441 Bq441 (1 : Int32)) (1 : Int32))), .val (.int (poV (poA Cq442 Bq442 (0 : Int32)) (0 : Int32))), .val (.int (eF (4 : Int32) per l1 m1 ph1 w1 l2 m2 ph2 w2)), .unset, .unset, .unset, .unset] [(.int (eF (3 : Int32) per l1 m1 ph1 w1 l2 m2 ph2 w2))])) := by
                  intro T445 lj445 X445 N445 Z445 V445
                  show OGets p e below _ (T445.setTop (mkF m 353 #[.val (.int p0), .val (.int p1), .val (.int p2), .val (.int p3), .val (.int p4), .val (.int p5), .val (.int per), .val (.int l1), .val (.int m1), .val (.int ph1), .val (.int w1), .val (.int l2), .val (.int m2), .val (.int ph2), .val (.int w2), .val (.ref b416), .val (.int (poV (poA Cq438 Bq438 (4 : Int32)) (4 : Int32))), .val (.int (poV (poA Cq439 Bq439 (3 : Int32)) (3 : Int32))), .val (.int (poV (poA Cq440 Bq440 (2 : Int32)) (2 : Int32))), .val (.int (poV (poA Cq441 Bq441 (1 : Int32)) (1 : Int32))), .val (.int (poV (poA Cq442 Bq442 (0 : Int32)) (0 : Int32))), .val (.int (eF (4 : Int32) per l1 m1 ph1 w1 l2 m2 ph2 w2)), .unset, .unset, .unset, .unset] [(.int (eF (3 : Int32) per l1 m1 ph1 w1 l2 m2 ph2 w2))]))
                  refine OGets.step (fun _ => XS.istore X445.here hx rfl (hb hby at_353) rfl (l' := #[.val (.int p0), .val (.int p1), .val (.int p2), .val (.int p3), .val (.int p4), .val (.int p5), .val (.int per), .val (.int l1), .val (.int m1), .val (.int ph1), .val (.int w1), .val (.int l2), .val (.int m2), .val (.int ph2), .val (.int w2), .val (.ref b416), .val (.int (poV (poA Cq438 Bq438 (4 : Int32)) (4 : Int32))), .val (.int (poV (poA Cq439 Bq439 (3 : Int32)) (3 : Int32))), .val (.int (poV (poA Cq440 Bq440 (2 : Int32)) (2 : Int32))), .val (.int (poV (poA Cq441 Bq441 (1 : Int32)) (1 : Int32))), .val (.int (poV (poA Cq442 Bq442 (0 : Int32)) (0 : Int32))), .val (.int (eF (4 : Int32) per l1 m1 ph1 w1 l2 m2 ph2 w2)), .val (.int (eF (3 : Int32) per l1 m1 ph1 w1 l2 m2 ph2 w2)), .unset, .unset, .unset]) rfl) ?_
                  have K446 : ∀ (T446 : State) (lj446 : List Loc), Stand p l e room_1 s m #[(.int p0), (.int p1), (.int p2), (.int p3), (.int p4), (.int p5)] below meth c T446 lj446 9 41 → Fr n0 lj446 → n0 ≤ T446.heap.size → OView Z n0 T446.heap (oC b416 [(.int per), (.ref au417), (.ref ac417), (.ref ab417), (.ref ay417), (.int 0)] :: oA ac417 Cq443 :: oA ab417 Bq443 :: oX ax438 [(.ref b416), (.ref b436)] :: oS b436 [(.int l2), (.int m2), (.int per), (.int ph2), (.int w2)] :: oX ax435 [(.ref b416), (.ref b433)] :: oS b433 [(.int l1), (.int m1), (.int per), (.int ph1), (.int w1)] :: oA au417 Uq432 :: oJ ay417 Yq432 :: []) → OGets p e below (OLeaves s (Q_law Z p0 p1 p2 p3 p4 p5 h0 n0 ) 32 192) (T446.setTop (mkF m 394 #[.val (.int p0), .val (.int p1), .val (.int p2), .val (.int p3), .val (.int p4), .val (.int p5), .val (.int per), .val (.int l1), .val (.int m1), .val (.int ph1), .val (.int w1), .val (.int l2), .val (.int m2), .val (.int ph2), .val (.int w2), .val (.ref b416), .val (.int (poV (poA Cq438 Bq438 (4 : Int32)) (4 : Int32))), .val (.int (poV (poA Cq439 Bq439 (3 : Int32)) (3 : Int32))), .val (.int (poV (poA Cq440 Bq440 (2 : Int32)) (2 : Int32))), .val (.int (poV (poA Cq441 Bq441 (1 : Int32)) (1 : Int32))), .val (.int (poV (poA Cq442 Bq442 (0 : Int32)) (0 : Int32))), .val (.int (eF (4 : Int32) per l1 m1 ph1 w1 l2 m2 ph2 w2)), .val (.int (eF (3 : Int32) per l1 m1 ph1 w1 l2 m2 ph2 w2)), .unset, .unset, .unset] [(.int (eF (2 : Int32) per l1 m1 ph1 w1 l2 m2 ph2 w2))])) := by
                    intro T446 lj446 X446 N446 Z446 V446
                    show OGets p e below _ (T446.setTop (mkF m 394 #[.val (.int p0), .val (.int p1), .val (.int p2), .val (.int p3), .val (.int p4), .val (.int p5), .val (.int per), .val (.int l1), .val (.int m1), .val (.int ph1), .val (.int w1), .val (.int l2), .val (.int m2), .val (.int ph2), .val (.int w2), .val (.ref b416), .val (.int (poV (poA Cq438 Bq438 (4 : Int32)) (4 : Int32))), .val (.int (poV (poA Cq439 Bq439 (3 : Int32)) (3 : Int32))), .val (.int (poV (poA Cq440 Bq440 (2 : Int32)) (2 : Int32))), .val (.int (poV (poA Cq441 Bq441 (1 : Int32)) (1 : Int32))), .val (.int (poV (poA Cq442 Bq442 (0 : Int32)) (0 : Int32))), .val (.int (eF (4 : Int32) per l1 m1 ph1 w1 l2 m2 ph2 w2)), .val (.int (eF (3 : Int32) per l1 m1 ph1 w1 l2 m2 ph2 w2)), .unset, .unset, .unset] [(.int (eF (2 : Int32) per l1 m1 ph1 w1 l2 m2 ph2 w2))]))
                    refine OGets.step (fun _ => XS.istore X446.here hx rfl (hb hby at_394) rfl (l' := #[.val (.int p0), .val (.int p1), .val (.int p2), .val (.int p3), .val (.int p4), .val (.int p5), .val (.int per), .val (.int l1), .val (.int m1), .val (.int ph1), .val (.int w1), .val (.int l2), .val (.int m2), .val (.int ph2), .val (.int w2), .val (.ref b416), .val (.int (poV (poA Cq438 Bq438 (4 : Int32)) (4 : Int32))), .val (.int (poV (poA Cq439 Bq439 (3 : Int32)) (3 : Int32))), .val (.int (poV (poA Cq440 Bq440 (2 : Int32)) (2 : Int32))), .val (.int (poV (poA Cq441 Bq441 (1 : Int32)) (1 : Int32))), .val (.int (poV (poA Cq442 Bq442 (0 : Int32)) (0 : Int32))), .val (.int (eF (4 : Int32) per l1 m1 ph1 w1 l2 m2 ph2 w2)), .val (.int (eF (3 : Int32) per l1 m1 ph1 w1 l2 m2 ph2 w2)), .val (.int (eF (2 : Int32) per l1 m1 ph1 w1 l2 m2 ph2 w2)), .unset, .unset]) rfl) ?_
                    have K447 : ∀ (T447 : State) (lj447 : List Loc), Stand p l e room_1 s m #[(.int p0), (.int p1), (.int p2), (.int p3), (.int p4), (.int p5)] below meth c T447 lj447 9 41 → Fr n0 lj447 → n0 ≤ T447.heap.size → OView Z n0 T447.heap (oC b416 [(.int per), (.ref au417), (.ref ac417), (.ref ab417), (.ref ay417), (.int 0)] :: oA ac417 Cq443 :: oA ab417 Bq443 :: oX ax438 [(.ref b416), (.ref b436)] :: oS b436 [(.int l2), (.int m2), (.int per), (.int ph2), (.int w2)] :: oX ax435 [(.ref b416), (.ref b433)] :: oS b433 [(.int l1), (.int m1), (.int per), (.int ph1), (.int w1)] :: oA au417 Uq432 :: oJ ay417 Yq432 :: []) → OGets p e below (OLeaves s (Q_law Z p0 p1 p2 p3 p4 p5 h0 n0 ) 32 192) (T447.setTop (mkF m 435 #[.val (.int p0), .val (.int p1), .val (.int p2), .val (.int p3), .val (.int p4), .val (.int p5), .val (.int per), .val (.int l1), .val (.int m1), .val (.int ph1), .val (.int w1), .val (.int l2), .val (.int m2), .val (.int ph2), .val (.int w2), .val (.ref b416), .val (.int (poV (poA Cq438 Bq438 (4 : Int32)) (4 : Int32))), .val (.int (poV (poA Cq439 Bq439 (3 : Int32)) (3 : Int32))), .val (.int (poV (poA Cq440 Bq440 (2 : Int32)) (2 : Int32))), .val (.int (poV (poA Cq441 Bq441 (1 : Int32)) (1 : Int32))), .val (.int (poV (poA Cq442 Bq442 (0 : Int32)) (0 : Int32))), .val (.int (eF (4 : Int32) per l1 m1 ph1 w1 l2 m2 ph2 w2)), .val (.int (eF (3 : Int32) per l1 m1 ph1 w1 l2 m2 ph2 w2)), .val (.int (eF (2 : Int32) per l1 m1 ph1 w1 l2 m2 ph2 w2)), .unset, .unset] [(.int (eF (1 : Int32) per l1 m1 ph1 w1 l2 m2 ph2 w2))])) := by
                      intro T447 lj447 X447 N447 Z447 V447
                      show OGets p e below _ (T447.setTop (mkF m 435 #[.val (.int p0), .val (.int p1), .val (.int p2), .val (.int p3), .val (.int p4), .val (.int p5), .val (.int per), .val (.int l1), .val (.int m1), .val (.int ph1), .val (.int w1), .val (.int l2), .val (.int m2), .val (.int ph2), .val (.int w2), .val (.ref b416), .val (.int (poV (poA Cq438 Bq438 (4 : Int32)) (4 : Int32))), .val (.int (poV (poA Cq439 Bq439 (3 : Int32)) (3 : Int32))), .val (.int (poV (poA Cq440 Bq440 (2 : Int32)) (2 : Int32))), .val (.int (poV (poA Cq441 Bq441 (1 : Int32)) (1 : Int32))), .val (.int (poV (poA Cq442 Bq442 (0 : Int32)) (0 : Int32))), .val (.int (eF (4 : Int32) per l1 m1 ph1 w1 l2 m2 ph2 w2)), .val (.int (eF (3 : Int32) per l1 m1 ph1 w1 l2 m2 ph2 w2)), .val (.int (eF (2 : Int32) per l1 m1 ph1 w1 l2 m2 ph2 w2)), .unset, .unset] [(.int (eF (1 : Int32) per l1 m1 ph1 w1 l2 m2 ph2 w2))]))
                      refine OGets.step (fun _ => XS.istore X447.here hx rfl (hb hby at_435) rfl (l' := #[.val (.int p0), .val (.int p1), .val (.int p2), .val (.int p3), .val (.int p4), .val (.int p5), .val (.int per), .val (.int l1), .val (.int m1), .val (.int ph1), .val (.int w1), .val (.int l2), .val (.int m2), .val (.int ph2), .val (.int w2), .val (.ref b416), .val (.int (poV (poA Cq438 Bq438 (4 : Int32)) (4 : Int32))), .val (.int (poV (poA Cq439 Bq439 (3 : Int32)) (3 : Int32))), .val (.int (poV (poA Cq440 Bq440 (2 : Int32)) (2 : Int32))), .val (.int (poV (poA Cq441 Bq441 (1 : Int32)) (1 : Int32))), .val (.int (poV (poA Cq442 Bq442 (0 : Int32)) (0 : Int32))), .val (.int (eF (4 : Int32) per l1 m1 ph1 w1 l2 m2 ph2 w2)), .val (.int (eF (3 : Int32) per l1 m1 ph1 w1 l2 m2 ph2 w2)), .val (.int (eF (2 : Int32) per l1 m1 ph1 w1 l2 m2 ph2 w2)), .val (.int (eF (1 : Int32) per l1 m1 ph1 w1 l2 m2 ph2 w2)), .unset]) rfl) ?_
                      have K448 : ∀ (T448 : State) (lj448 : List Loc), Stand p l e room_1 s m #[(.int p0), (.int p1), (.int p2), (.int p3), (.int p4), (.int p5)] below meth c T448 lj448 9 41 → Fr n0 lj448 → n0 ≤ T448.heap.size → OView Z n0 T448.heap (oC b416 [(.int per), (.ref au417), (.ref ac417), (.ref ab417), (.ref ay417), (.int 0)] :: oA ac417 Cq443 :: oA ab417 Bq443 :: oX ax438 [(.ref b416), (.ref b436)] :: oS b436 [(.int l2), (.int m2), (.int per), (.int ph2), (.int w2)] :: oX ax435 [(.ref b416), (.ref b433)] :: oS b433 [(.int l1), (.int m1), (.int per), (.int ph1), (.int w1)] :: oA au417 Uq432 :: oJ ay417 Yq432 :: []) → OGets p e below (OLeaves s (Q_law Z p0 p1 p2 p3 p4 p5 h0 n0 ) 32 192) (T448.setTop (mkF m 476 #[.val (.int p0), .val (.int p1), .val (.int p2), .val (.int p3), .val (.int p4), .val (.int p5), .val (.int per), .val (.int l1), .val (.int m1), .val (.int ph1), .val (.int w1), .val (.int l2), .val (.int m2), .val (.int ph2), .val (.int w2), .val (.ref b416), .val (.int (poV (poA Cq438 Bq438 (4 : Int32)) (4 : Int32))), .val (.int (poV (poA Cq439 Bq439 (3 : Int32)) (3 : Int32))), .val (.int (poV (poA Cq440 Bq440 (2 : Int32)) (2 : Int32))), .val (.int (poV (poA Cq441 Bq441 (1 : Int32)) (1 : Int32))), .val (.int (poV (poA Cq442 Bq442 (0 : Int32)) (0 : Int32))), .val (.int (eF (4 : Int32) per l1 m1 ph1 w1 l2 m2 ph2 w2)), .val (.int (eF (3 : Int32) per l1 m1 ph1 w1 l2 m2 ph2 w2)), .val (.int (eF (2 : Int32) per l1 m1 ph1 w1 l2 m2 ph2 w2)), .val (.int (eF (1 : Int32) per l1 m1 ph1 w1 l2 m2 ph2 w2)), .unset] [(.int (eF (0 : Int32) per l1 m1 ph1 w1 l2 m2 ph2 w2))])) := by
                        intro T448 lj448 X448 N448 Z448 V448
                        show OGets p e below _ (T448.setTop (mkF m 476 #[.val (.int p0), .val (.int p1), .val (.int p2), .val (.int p3), .val (.int p4), .val (.int p5), .val (.int per), .val (.int l1), .val (.int m1), .val (.int ph1), .val (.int w1), .val (.int l2), .val (.int m2), .val (.int ph2), .val (.int w2), .val (.ref b416), .val (.int (poV (poA Cq438 Bq438 (4 : Int32)) (4 : Int32))), .val (.int (poV (poA Cq439 Bq439 (3 : Int32)) (3 : Int32))), .val (.int (poV (poA Cq440 Bq440 (2 : Int32)) (2 : Int32))), .val (.int (poV (poA Cq441 Bq441 (1 : Int32)) (1 : Int32))), .val (.int (poV (poA Cq442 Bq442 (0 : Int32)) (0 : Int32))), .val (.int (eF (4 : Int32) per l1 m1 ph1 w1 l2 m2 ph2 w2)), .val (.int (eF (3 : Int32) per l1 m1 ph1 w1 l2 m2 ph2 w2)), .val (.int (eF (2 : Int32) per l1 m1 ph1 w1 l2 m2 ph2 w2)), .val (.int (eF (1 : Int32) per l1 m1 ph1 w1 l2 m2 ph2 w2)), .unset] [(.int (eF (0 : Int32) per l1 m1 ph1 w1 l2 m2 ph2 w2))]))
                        refine OGets.step (fun _ => XS.istore X448.here hx rfl (hb hby at_476) rfl (l' := #[.val (.int p0), .val (.int p1), .val (.int p2), .val (.int p3), .val (.int p4), .val (.int p5), .val (.int per), .val (.int l1), .val (.int m1), .val (.int ph1), .val (.int w1), .val (.int l2), .val (.int m2), .val (.int ph2), .val (.int w2), .val (.ref b416), .val (.int (poV (poA Cq438 Bq438 (4 : Int32)) (4 : Int32))), .val (.int (poV (poA Cq439 Bq439 (3 : Int32)) (3 : Int32))), .val (.int (poV (poA Cq440 Bq440 (2 : Int32)) (2 : Int32))), .val (.int (poV (poA Cq441 Bq441 (1 : Int32)) (1 : Int32))), .val (.int (poV (poA Cq442 Bq442 (0 : Int32)) (0 : Int32))), .val (.int (eF (4 : Int32) per l1 m1 ph1 w1 l2 m2 ph2 w2)), .val (.int (eF (3 : Int32) per l1 m1 ph1 w1 l2 m2 ph2 w2)), .val (.int (eF (2 : Int32) per l1 m1 ph1 w1 l2 m2 ph2 w2)), .val (.int (eF (1 : Int32) per l1 m1 ph1 w1 l2 m2 ph2 w2)), .val (.int (eF (0 : Int32) per l1 m1 ph1 w1 l2 m2 ph2 w2))]) rfl) ?_
                        refine OGets.step (fun _ => XS.aload X448.here hx rfl (hb hby at_478) rfl rfl) ?_
                        obtain ⟨cq449, kq449, q449a, q449b, q449c⟩ := isOf hZ rfl (V448.exa 0 rfl)
                        obtain ⟨_, _, ⟨T449, L449, k449, n449⟩, -, X449, ⟨Lc449, hQ449, l449, y449, z449⟩, st449⟩ := X448.virtualBack hx (y := (⟨"com/example/pelt/pelt/StackCounts", "height", "()I"⟩ : MethodName)) (z := (⟨"com/example/pelt/pelt/StackCounts", "height", "()I"⟩ : MethodName)) hown (mvT hZ (hw _ (List.mem_of_getElem? (i := 81) rfl))) (mvT hZ (hw _ (List.mem_of_getElem? (i := 82) rfl))) (notFace_of_selects (args := #[]) (mvT hZ (hw _ (List.mem_of_getElem? (i := 84) rfl)))) (mvT hZ (hw _ (List.mem_of_getElem? (i := 84) rfl))) (mvT hZ (hw _ (List.mem_of_getElem? (i := 83) rfl))) (by decide) (backOf (W := 0) (rm_hgt l Z a0 hw [] b416 au417 ac417 (.ref ab417) (.ref ay417) per (0 : Int32) T448.heap n0 (oA ac417 Cq443 :: oA ab417 Bq443 :: oX ax438 [(.ref b416), (.ref b436)] :: oS b436 [(.int l2), (.int m2), (.int per), (.int ph2), (.int w2)] :: oX ax435 [(.ref b416), (.ref b433)] :: oS b433 [(.int l1), (.int m1), (.int per), (.int ph1), (.int w1)] :: oA au417 Uq432 :: oJ ay417 Yq432 :: []) Z448  V448) hZ (hw _ (List.mem_of_getElem? (i := 85) rfl)) (hw _ (List.mem_of_getElem? (i := 4) rfl)) (by decide) (by decide)) q449a q449c (g := (mkF m 480 #[.val (.int p0), .val (.int p1), .val (.int p2), .val (.int p3), .val (.int p4), .val (.int p5), .val (.int per), .val (.int l1), .val (.int m1), .val (.int ph1), .val (.int w1), .val (.int l2), .val (.int m2), .val (.int ph2), .val (.int w2), .val (.ref b416), .val (.int (poV (poA Cq438 Bq438 (4 : Int32)) (4 : Int32))), .val (.int (poV (poA Cq439 Bq439 (3 : Int32)) (3 : Int32))), .val (.int (poV (poA Cq440 Bq440 (2 : Int32)) (2 : Int32))), .val (.int (poV (poA Cq441 Bq441 (1 : Int32)) (1 : Int32))), .val (.int (poV (poA Cq442 Bq442 (0 : Int32)) (0 : Int32))), .val (.int (eF (4 : Int32) per l1 m1 ph1 w1 l2 m2 ph2 w2)), .val (.int (eF (3 : Int32) per l1 m1 ph1 w1 l2 m2 ph2 w2)), .val (.int (eF (2 : Int32) per l1 m1 ph1 w1 l2 m2 ph2 w2)), .val (.int (eF (1 : Int32) per l1 m1 ph1 w1 l2 m2 ph2 w2)), .val (.int (eF (0 : Int32) per l1 m1 ph1 w1 l2 m2 ph2 w2))] [(.ref b416)])) rfl (by rw [hml]; rfl) (Steps.refl _) (argsL := []) (rest := []) (lenOf pd_5 rfl) rfl (by show 2 * 0 + _ ≤ _; exact Nat.le_of_eq rfl) (hb hby at_480) (fun _ _ => ⟨rfl, rfl, Nat.le_of_ble_eq_true rfl, Nat.le_of_ble_eq_true rfl⟩)
                        dsimp only [Pt.U, Pt.locs, Pt.cells, Pt.slots] at X449 l449 y449 z449 st449 hQ449
                        rw [l449, y449, z449] at X449
                        obtain ⟨rfl, rfl, e449⟩ := hQ449
                        have N449 := Fr.app N448 (Fr.nil n0)
                        refine OGets.after st449 ?_
                        refine OGets.step (fun _ => XS.ifNo X449.here hx rfl (hb hby at_483) rfl ((if0 _ _).trans (teq (by decide : (0 : Int32) = (0 : Int32))).2)) ?_
                        have hpl0 : poV (poA Cq438 Bq438 (4 : Int32)) (4 : Int32) = (eF (4 : Int32) per l1 m1 ph1 w1 l2 m2 ph2 w2) := by rw [hCq438, hBq438, hCq435, hBq435]; exact own_valB 4 D1 D2 hB
                        have hpl1 : poV (poA Cq439 Bq439 (3 : Int32)) (3 : Int32) = (eF (3 : Int32) per l1 m1 ph1 w1 l2 m2 ph2 w2) := by rw [hCq439, hBq439, hCq438, hBq438, hCq435, hBq435]; exact own_valB 3 D1 D2 hB
                        have hpl2 : poV (poA Cq440 Bq440 (2 : Int32)) (2 : Int32) = (eF (2 : Int32) per l1 m1 ph1 w1 l2 m2 ph2 w2) := by rw [hCq440, hBq440, hCq439, hBq439, hCq438, hBq438, hCq435, hBq435]; exact own_valB 2 D1 D2 hB
                        have hpl3 : poV (poA Cq441 Bq441 (1 : Int32)) (1 : Int32) = (eF (1 : Int32) per l1 m1 ph1 w1 l2 m2 ph2 w2) := by rw [hCq441, hBq441, hCq440, hBq440, hCq439, hBq439, hCq438, hBq438, hCq435, hBq435]; exact own_valB 1 D1 D2 hB
                        have hpl4 : poV (poA Cq442 Bq442 (0 : Int32)) (0 : Int32) = (eF (0 : Int32) per l1 m1 ph1 w1 l2 m2 ph2 w2) := by rw [hCq442, hBq442, hCq441, hBq441, hCq440, hBq440, hCq439, hBq439, hCq438, hBq438, hCq435, hBq435]; exact own_valB 0 D1 D2 hB
                        show OGets p e below _ (T449.setTop (mkF m 486 #[.val (.int p0), .val (.int p1), .val (.int p2), .val (.int p3), .val (.int p4), .val (.int p5), .val (.int per), .val (.int l1), .val (.int m1), .val (.int ph1), .val (.int w1), .val (.int l2), .val (.int m2), .val (.int ph2), .val (.int w2), .val (.ref b416), .val (.int (poV (poA Cq438 Bq438 (4 : Int32)) (4 : Int32))), .val (.int (poV (poA Cq439 Bq439 (3 : Int32)) (3 : Int32))), .val (.int (poV (poA Cq440 Bq440 (2 : Int32)) (2 : Int32))), .val (.int (poV (poA Cq441 Bq441 (1 : Int32)) (1 : Int32))), .val (.int (poV (poA Cq442 Bq442 (0 : Int32)) (0 : Int32))), .val (.int (eF (4 : Int32) per l1 m1 ph1 w1 l2 m2 ph2 w2)), .val (.int (eF (3 : Int32) per l1 m1 ph1 w1 l2 m2 ph2 w2)), .val (.int (eF (2 : Int32) per l1 m1 ph1 w1 l2 m2 ph2 w2)), .val (.int (eF (1 : Int32) per l1 m1 ph1 w1 l2 m2 ph2 w2)), .val (.int (eF (0 : Int32) per l1 m1 ph1 w1 l2 m2 ph2 w2))] []))
                        refine OGets.step (fun _ => XS.iload X449.here hx rfl (hb hby at_486) rfl) ?_
                        refine OGets.step (fun _ => XS.iload X449.here hx rfl (hb hby at_488) rfl) ?_
                        refine OGets.step (fun _ => XS.icmpNo X449.here hx rfl (hb hby at_490) rfl (teq (hpl0 : (poV (poA Cq438 Bq438 (4 : Int32)) (4 : Int32)) = (eF (4 : Int32) per l1 m1 ph1 w1 l2 m2 ph2 w2))).2) ?_
                        refine OGets.step (fun _ => XS.iload X449.here hx rfl (hb hby at_493) rfl) ?_
                        refine OGets.step (fun _ => XS.iload X449.here hx rfl (hb hby at_495) rfl) ?_
                        refine OGets.step (fun _ => XS.icmpNo X449.here hx rfl (hb hby at_497) rfl (teq (hpl1 : (poV (poA Cq439 Bq439 (3 : Int32)) (3 : Int32)) = (eF (3 : Int32) per l1 m1 ph1 w1 l2 m2 ph2 w2))).2) ?_
                        refine OGets.step (fun _ => XS.iload X449.here hx rfl (hb hby at_500) rfl) ?_
                        show OGets p e below _ (T449.setTop (mkF m 502 #[.val (.int p0), .val (.int p1), .val (.int p2), .val (.int p3), .val (.int p4), .val (.int p5), .val (.int per), .val (.int l1), .val (.int m1), .val (.int ph1), .val (.int w1), .val (.int l2), .val (.int m2), .val (.int ph2), .val (.int w2), .val (.ref b416), .val (.int (poV (poA Cq438 Bq438 (4 : Int32)) (4 : Int32))), .val (.int (poV (poA Cq439 Bq439 (3 : Int32)) (3 : Int32))), .val (.int (poV (poA Cq440 Bq440 (2 : Int32)) (2 : Int32))), .val (.int (poV (poA Cq441 Bq441 (1 : Int32)) (1 : Int32))), .val (.int (poV (poA Cq442 Bq442 (0 : Int32)) (0 : Int32))), .val (.int (eF (4 : Int32) per l1 m1 ph1 w1 l2 m2 ph2 w2)), .val (.int (eF (3 : Int32) per l1 m1 ph1 w1 l2 m2 ph2 w2)), .val (.int (eF (2 : Int32) per l1 m1 ph1 w1 l2 m2 ph2 w2)), .val (.int (eF (1 : Int32) per l1 m1 ph1 w1 l2 m2 ph2 w2)), .val (.int (eF (0 : Int32) per l1 m1 ph1 w1 l2 m2 ph2 w2))] [(.int (poV (poA Cq440 Bq440 (2 : Int32)) (2 : Int32)))]))
                        refine OGets.step (fun _ => XS.iload X449.here hx rfl (hb hby at_502) rfl) ?_
                        refine OGets.step (fun _ => XS.icmpNo X449.here hx rfl (hb hby at_504) rfl (teq (hpl2 : (poV (poA Cq440 Bq440 (2 : Int32)) (2 : Int32)) = (eF (2 : Int32) per l1 m1 ph1 w1 l2 m2 ph2 w2))).2) ?_
                        refine OGets.step (fun _ => XS.iload X449.here hx rfl (hb hby at_507) rfl) ?_
                        refine OGets.step (fun _ => XS.iload X449.here hx rfl (hb hby at_509) rfl) ?_
                        refine OGets.step (fun _ => XS.icmpNo X449.here hx rfl (hb hby at_511) rfl (teq (hpl3 : (poV (poA Cq441 Bq441 (1 : Int32)) (1 : Int32)) = (eF (1 : Int32) per l1 m1 ph1 w1 l2 m2 ph2 w2))).2) ?_
                        refine OGets.step (fun _ => XS.iload X449.here hx rfl (hb hby at_514) rfl) ?_
                        refine OGets.step (fun _ => XS.iload X449.here hx rfl (hb hby at_516) rfl) ?_
                        show OGets p e below _ (T449.setTop (mkF m 518 #[.val (.int p0), .val (.int p1), .val (.int p2), .val (.int p3), .val (.int p4), .val (.int p5), .val (.int per), .val (.int l1), .val (.int m1), .val (.int ph1), .val (.int w1), .val (.int l2), .val (.int m2), .val (.int ph2), .val (.int w2), .val (.ref b416), .val (.int (poV (poA Cq438 Bq438 (4 : Int32)) (4 : Int32))), .val (.int (poV (poA Cq439 Bq439 (3 : Int32)) (3 : Int32))), .val (.int (poV (poA Cq440 Bq440 (2 : Int32)) (2 : Int32))), .val (.int (poV (poA Cq441 Bq441 (1 : Int32)) (1 : Int32))), .val (.int (poV (poA Cq442 Bq442 (0 : Int32)) (0 : Int32))), .val (.int (eF (4 : Int32) per l1 m1 ph1 w1 l2 m2 ph2 w2)), .val (.int (eF (3 : Int32) per l1 m1 ph1 w1 l2 m2 ph2 w2)), .val (.int (eF (2 : Int32) per l1 m1 ph1 w1 l2 m2 ph2 w2)), .val (.int (eF (1 : Int32) per l1 m1 ph1 w1 l2 m2 ph2 w2)), .val (.int (eF (0 : Int32) per l1 m1 ph1 w1 l2 m2 ph2 w2))] [(.int (eF (0 : Int32) per l1 m1 ph1 w1 l2 m2 ph2 w2)), (.int (poV (poA Cq442 Bq442 (0 : Int32)) (0 : Int32)))]))
                        refine OGets.step (fun _ => XS.icmpNo X449.here hx rfl (hb hby at_518) rfl (teq (hpl4 : (poV (poA Cq442 Bq442 (0 : Int32)) (0 : Int32)) = (eF (0 : Int32) per l1 m1 ph1 w1 l2 m2 ph2 w2))).2) ?_
                        refine OGets.step (fun _ => XS.iconst X449.here hx rfl (hb hby at_521)) ?_
                        refine OGets.step (fun _ => XS.goto X449.here hx rfl (pc0 := 522) (pc' := 526) rfl (hb hby at_522) (by decide) (by decide)) ?_
                        refine OGets.retN X449 hx hlk (t := .boolean) Bd.returns (by simp) (hb hby at_526) (Nat.le_of_ble_eq_true rfl) (Nat.le_of_ble_eq_true rfl) ?_
                        exact ⟨rfl, N449⟩
                      refine OGets.step (fun _ => XS.iconst X447.here hx rfl (hb hby at_437)) ?_
                      refine OGets.step (fun _ => XS.iload X447.here hx rfl (hb hby at_438) rfl) ?_
                      refine OGets.step (fun _ => XS.iload X447.here hx rfl (hb hby at_440) rfl) ?_
                      refine OGets.step (fun _ => XS.iload X447.here hx rfl (hb hby at_442) rfl) ?_
                      refine OGets.step (fun _ => XS.iload X447.here hx rfl (hb hby at_444) rfl) ?_
                      refine OGets.step (fun _ => XS.iload X447.here hx rfl (hb hby at_446) rfl) ?_
                      show OGets p e below _ (T447.setTop (mkF m 448 #[.val (.int p0), .val (.int p1), .val (.int p2), .val (.int p3), .val (.int p4), .val (.int p5), .val (.int per), .val (.int l1), .val (.int m1), .val (.int ph1), .val (.int w1), .val (.int l2), .val (.int m2), .val (.int ph2), .val (.int w2), .val (.ref b416), .val (.int (poV (poA Cq438 Bq438 (4 : Int32)) (4 : Int32))), .val (.int (poV (poA Cq439 Bq439 (3 : Int32)) (3 : Int32))), .val (.int (poV (poA Cq440 Bq440 (2 : Int32)) (2 : Int32))), .val (.int (poV (poA Cq441 Bq441 (1 : Int32)) (1 : Int32))), .val (.int (poV (poA Cq442 Bq442 (0 : Int32)) (0 : Int32))), .val (.int (eF (4 : Int32) per l1 m1 ph1 w1 l2 m2 ph2 w2)), .val (.int (eF (3 : Int32) per l1 m1 ph1 w1 l2 m2 ph2 w2)), .val (.int (eF (2 : Int32) per l1 m1 ph1 w1 l2 m2 ph2 w2)), .val (.int (eF (1 : Int32) per l1 m1 ph1 w1 l2 m2 ph2 w2)), .unset] [(.int w1), (.int ph1), (.int per), (.int m1), (.int l1), (.int 0)]))
                      obtain ⟨_, _, ⟨T456, L456, k456, n456⟩, -, X456, ⟨Lc456, hQ456, l456, y456, z456⟩, st456⟩ := Jvm.LawKit.callS X447 hx (y := (⟨"com/example/pelt/pelt/StackCountsPopPinLaw", "held", "(IIIIII)Z"⟩ : MethodName)) hown (mvT hZ (hw _ (List.mem_of_getElem? (i := 77) rfl))) (mvT hZ (hw _ (List.mem_of_getElem? (i := 78) rfl))) (mvT hZ (hw _ (List.mem_of_getElem? (i := 79) rfl))) (mvT hZ (hw _ (List.mem_of_getElem? (i := 80) rfl))) (by decide) (backOf (W := 0) (rm_held l Z a0 hw [] (0 : Int32) l1 m1 per ph1 w1 T447.heap n0  Z447 (own_nz hP)) hZ (hw _ (List.mem_of_getElem? (i := 80) rfl)) (hw _ (List.mem_of_getElem? (i := 79) rfl)) (by decide) (by decide)) (g := (mkF m 448 #[.val (.int p0), .val (.int p1), .val (.int p2), .val (.int p3), .val (.int p4), .val (.int p5), .val (.int per), .val (.int l1), .val (.int m1), .val (.int ph1), .val (.int w1), .val (.int l2), .val (.int m2), .val (.int ph2), .val (.int w2), .val (.ref b416), .val (.int (poV (poA Cq438 Bq438 (4 : Int32)) (4 : Int32))), .val (.int (poV (poA Cq439 Bq439 (3 : Int32)) (3 : Int32))), .val (.int (poV (poA Cq440 Bq440 (2 : Int32)) (2 : Int32))), .val (.int (poV (poA Cq441 Bq441 (1 : Int32)) (1 : Int32))), .val (.int (poV (poA Cq442 Bq442 (0 : Int32)) (0 : Int32))), .val (.int (eF (4 : Int32) per l1 m1 ph1 w1 l2 m2 ph2 w2)), .val (.int (eF (3 : Int32) per l1 m1 ph1 w1 l2 m2 ph2 w2)), .val (.int (eF (2 : Int32) per l1 m1 ph1 w1 l2 m2 ph2 w2)), .val (.int (eF (1 : Int32) per l1 m1 ph1 w1 l2 m2 ph2 w2)), .unset] [(.int w1), (.int ph1), (.int per), (.int m1), (.int l1), (.int 0)])) rfl (by rw [hml]; rfl) (argsL := [(.int 0), (.int l1), (.int m1), (.int per), (.int ph1), (.int w1)]) (rest := []) (lenOf pd_18 rfl) rfl (by show 2 * 0 + _ ≤ _; exact Nat.le_of_eq rfl) (hb hby at_448) (fun _ _ => ⟨rfl, rfl, Nat.le_of_ble_eq_true rfl, Nat.le_of_ble_eq_true rfl⟩)
                      dsimp only [Pt.U, Pt.locs, Pt.cells, Pt.slots] at X456 l456 y456 z456 st456 hQ456
                      rw [l456, y456, z456] at X456
                      obtain ⟨rfl, rfl, e456⟩ := hQ456
                      have N456 := Fr.app N447 (Fr.nil n0)
                      refine OGets.step st456 ?_
                      by_cases hc451_457 : (f_held (0 : Int32) l1 m1 per ph1 w1) = (0 : Int32)
                      · refine OGets.step (fun _ => XS.ifNo X456.here hx rfl (hb hby at_451) rfl ((if0 _ _).trans (teq hc451_457).2)) ?_
                        show OGets p e below _ (T456.setTop (mkF m 454 #[.val (.int p0), .val (.int p1), .val (.int p2), .val (.int p3), .val (.int p4), .val (.int p5), .val (.int per), .val (.int l1), .val (.int m1), .val (.int ph1), .val (.int w1), .val (.int l2), .val (.int m2), .val (.int ph2), .val (.int w2), .val (.ref b416), .val (.int (poV (poA Cq438 Bq438 (4 : Int32)) (4 : Int32))), .val (.int (poV (poA Cq439 Bq439 (3 : Int32)) (3 : Int32))), .val (.int (poV (poA Cq440 Bq440 (2 : Int32)) (2 : Int32))), .val (.int (poV (poA Cq441 Bq441 (1 : Int32)) (1 : Int32))), .val (.int (poV (poA Cq442 Bq442 (0 : Int32)) (0 : Int32))), .val (.int (eF (4 : Int32) per l1 m1 ph1 w1 l2 m2 ph2 w2)), .val (.int (eF (3 : Int32) per l1 m1 ph1 w1 l2 m2 ph2 w2)), .val (.int (eF (2 : Int32) per l1 m1 ph1 w1 l2 m2 ph2 w2)), .val (.int (eF (1 : Int32) per l1 m1 ph1 w1 l2 m2 ph2 w2)), .unset] []))
                        refine OGets.step (fun _ => XS.iconst X456.here hx rfl (hb hby at_454)) ?_
                        refine OGets.step (fun _ => XS.iload X456.here hx rfl (hb hby at_455) rfl) ?_
                        refine OGets.step (fun _ => XS.iload X456.here hx rfl (hb hby at_457) rfl) ?_
                        refine OGets.step (fun _ => XS.iload X456.here hx rfl (hb hby at_459) rfl) ?_
                        refine OGets.step (fun _ => XS.iload X456.here hx rfl (hb hby at_461) rfl) ?_
                        refine OGets.step (fun _ => XS.iload X456.here hx rfl (hb hby at_463) rfl) ?_
                        obtain ⟨_, _, ⟨T458, L458, k458, n458⟩, -, X458, ⟨Lc458, hQ458, l458, y458, z458⟩, st458⟩ := Jvm.LawKit.callS X456 hx (y := (⟨"com/example/pelt/pelt/StackCountsPopPinLaw", "held", "(IIIIII)Z"⟩ : MethodName)) hown (mvT hZ (hw _ (List.mem_of_getElem? (i := 77) rfl))) (mvT hZ (hw _ (List.mem_of_getElem? (i := 78) rfl))) (mvT hZ (hw _ (List.mem_of_getElem? (i := 79) rfl))) (mvT hZ (hw _ (List.mem_of_getElem? (i := 80) rfl))) (by decide) (backOf (W := 0) (rm_held l Z a0 hw [] (0 : Int32) l2 m2 per ph2 w2 T447.heap n0  Z447 (own_nz hP)) hZ (hw _ (List.mem_of_getElem? (i := 80) rfl)) (hw _ (List.mem_of_getElem? (i := 79) rfl)) (by decide) (by decide)) (g := (mkF m 465 #[.val (.int p0), .val (.int p1), .val (.int p2), .val (.int p3), .val (.int p4), .val (.int p5), .val (.int per), .val (.int l1), .val (.int m1), .val (.int ph1), .val (.int w1), .val (.int l2), .val (.int m2), .val (.int ph2), .val (.int w2), .val (.ref b416), .val (.int (poV (poA Cq438 Bq438 (4 : Int32)) (4 : Int32))), .val (.int (poV (poA Cq439 Bq439 (3 : Int32)) (3 : Int32))), .val (.int (poV (poA Cq440 Bq440 (2 : Int32)) (2 : Int32))), .val (.int (poV (poA Cq441 Bq441 (1 : Int32)) (1 : Int32))), .val (.int (poV (poA Cq442 Bq442 (0 : Int32)) (0 : Int32))), .val (.int (eF (4 : Int32) per l1 m1 ph1 w1 l2 m2 ph2 w2)), .val (.int (eF (3 : Int32) per l1 m1 ph1 w1 l2 m2 ph2 w2)), .val (.int (eF (2 : Int32) per l1 m1 ph1 w1 l2 m2 ph2 w2)), .val (.int (eF (1 : Int32) per l1 m1 ph1 w1 l2 m2 ph2 w2)), .unset] [(.int w2), (.int ph2), (.int per), (.int m2), (.int l2), (.int 0)])) rfl (by rw [hml]; rfl) (argsL := [(.int 0), (.int l2), (.int m2), (.int per), (.int ph2), (.int w2)]) (rest := []) (lenOf pd_18 rfl) rfl (by show 2 * 0 + _ ≤ _; exact Nat.le_of_eq rfl) (hb hby at_465) (fun _ _ => ⟨rfl, e456, Nat.le_of_ble_eq_true rfl, Nat.le_of_ble_eq_true rfl⟩)
                        dsimp only [Pt.U, Pt.locs, Pt.cells, Pt.slots] at X458 l458 y458 z458 st458 hQ458
                        rw [l458, y458, z458] at X458
                        obtain ⟨rfl, rfl, e458⟩ := hQ458
                        have N458 := Fr.app N456 (Fr.nil n0)
                        refine OGets.step st458 ?_
                        show OGets p e below _ (T458.setTop (mkF m 468 #[.val (.int p0), .val (.int p1), .val (.int p2), .val (.int p3), .val (.int p4), .val (.int p5), .val (.int per), .val (.int l1), .val (.int m1), .val (.int ph1), .val (.int w1), .val (.int l2), .val (.int m2), .val (.int ph2), .val (.int w2), .val (.ref b416), .val (.int (poV (poA Cq438 Bq438 (4 : Int32)) (4 : Int32))), .val (.int (poV (poA Cq439 Bq439 (3 : Int32)) (3 : Int32))), .val (.int (poV (poA Cq440 Bq440 (2 : Int32)) (2 : Int32))), .val (.int (poV (poA Cq441 Bq441 (1 : Int32)) (1 : Int32))), .val (.int (poV (poA Cq442 Bq442 (0 : Int32)) (0 : Int32))), .val (.int (eF (4 : Int32) per l1 m1 ph1 w1 l2 m2 ph2 w2)), .val (.int (eF (3 : Int32) per l1 m1 ph1 w1 l2 m2 ph2 w2)), .val (.int (eF (2 : Int32) per l1 m1 ph1 w1 l2 m2 ph2 w2)), .val (.int (eF (1 : Int32) per l1 m1 ph1 w1 l2 m2 ph2 w2)), .unset] [(.int (f_held (0 : Int32) l2 m2 per ph2 w2))]))
                        by_cases hc468_459 : (f_held (0 : Int32) l2 m2 per ph2 w2) = (0 : Int32)
                        · refine OGets.step (fun _ => XS.ifYes X458.here hx rfl (pc0 := 468) (pc' := 475) rfl (hb hby at_468) rfl ((if0 _ _).trans (teq hc468_459).1) (by decide) (by decide)) ?_
                          show OGets p e below _ (T458.setTop (mkF m 475 #[.val (.int p0), .val (.int p1), .val (.int p2), .val (.int p3), .val (.int p4), .val (.int p5), .val (.int per), .val (.int l1), .val (.int m1), .val (.int ph1), .val (.int w1), .val (.int l2), .val (.int m2), .val (.int ph2), .val (.int w2), .val (.ref b416), .val (.int (poV (poA Cq438 Bq438 (4 : Int32)) (4 : Int32))), .val (.int (poV (poA Cq439 Bq439 (3 : Int32)) (3 : Int32))), .val (.int (poV (poA Cq440 Bq440 (2 : Int32)) (2 : Int32))), .val (.int (poV (poA Cq441 Bq441 (1 : Int32)) (1 : Int32))), .val (.int (poV (poA Cq442 Bq442 (0 : Int32)) (0 : Int32))), .val (.int (eF (4 : Int32) per l1 m1 ph1 w1 l2 m2 ph2 w2)), .val (.int (eF (3 : Int32) per l1 m1 ph1 w1 l2 m2 ph2 w2)), .val (.int (eF (2 : Int32) per l1 m1 ph1 w1 l2 m2 ph2 w2)), .val (.int (eF (1 : Int32) per l1 m1 ph1 w1 l2 m2 ph2 w2)), .unset] []))
                          refine OGets.step (fun _ => XS.iconst X458.here hx rfl (hb hby at_475)) ?_
                          show OGets p e below _ (T458.setTop (mkF m 476 #[.val (.int p0), .val (.int p1), .val (.int p2), .val (.int p3), .val (.int p4), .val (.int p5), .val (.int per), .val (.int l1), .val (.int m1), .val (.int ph1), .val (.int w1), .val (.int l2), .val (.int m2), .val (.int ph2), .val (.int w2), .val (.ref b416), .val (.int (poV (poA Cq438 Bq438 (4 : Int32)) (4 : Int32))), .val (.int (poV (poA Cq439 Bq439 (3 : Int32)) (3 : Int32))), .val (.int (poV (poA Cq440 Bq440 (2 : Int32)) (2 : Int32))), .val (.int (poV (poA Cq441 Bq441 (1 : Int32)) (1 : Int32))), .val (.int (poV (poA Cq442 Bq442 (0 : Int32)) (0 : Int32))), .val (.int (eF (4 : Int32) per l1 m1 ph1 w1 l2 m2 ph2 w2)), .val (.int (eF (3 : Int32) per l1 m1 ph1 w1 l2 m2 ph2 w2)), .val (.int (eF (2 : Int32) per l1 m1 ph1 w1 l2 m2 ph2 w2)), .val (.int (eF (1 : Int32) per l1 m1 ph1 w1 l2 m2 ph2 w2)), .unset] [(.int 0)]))
                          have ke : (eF (0 : Int32) per l1 m1 ph1 w1 l2 m2 ph2 w2) = (0 : Int32) := (if_pos hc451_457).trans (if_pos hc468_459)
                          have kr := K448 _ _ X458 N458 (by rw [e458]; exact Z447) (by rw [e458]; exact V447)
                          rw [ke] at kr
                          exact kr
                        · refine OGets.step (fun _ => XS.ifNo X458.here hx rfl (hb hby at_468) rfl ((if0 _ _).trans (feq hc468_459).1)) ?_
                          show OGets p e below _ (T458.setTop (mkF m 471 #[.val (.int p0), .val (.int p1), .val (.int p2), .val (.int p3), .val (.int p4), .val (.int p5), .val (.int per), .val (.int l1), .val (.int m1), .val (.int ph1), .val (.int w1), .val (.int l2), .val (.int m2), .val (.int ph2), .val (.int w2), .val (.ref b416), .val (.int (poV (poA Cq438 Bq438 (4 : Int32)) (4 : Int32))), .val (.int (poV (poA Cq439 Bq439 (3 : Int32)) (3 : Int32))), .val (.int (poV (poA Cq440 Bq440 (2 : Int32)) (2 : Int32))), .val (.int (poV (poA Cq441 Bq441 (1 : Int32)) (1 : Int32))), .val (.int (poV (poA Cq442 Bq442 (0 : Int32)) (0 : Int32))), .val (.int (eF (4 : Int32) per l1 m1 ph1 w1 l2 m2 ph2 w2)), .val (.int (eF (3 : Int32) per l1 m1 ph1 w1 l2 m2 ph2 w2)), .val (.int (eF (2 : Int32) per l1 m1 ph1 w1 l2 m2 ph2 w2)), .val (.int (eF (1 : Int32) per l1 m1 ph1 w1 l2 m2 ph2 w2)), .unset] []))
                          refine OGets.step (fun _ => XS.iconst X458.here hx rfl (hb hby at_471)) ?_
                          refine OGets.step (fun _ => XS.goto X458.here hx rfl (pc0 := 472) (pc' := 476) rfl (hb hby at_472) (by decide) (by decide)) ?_
                          show OGets p e below _ (T458.setTop (mkF m 476 #[.val (.int p0), .val (.int p1), .val (.int p2), .val (.int p3), .val (.int p4), .val (.int p5), .val (.int per), .val (.int l1), .val (.int m1), .val (.int ph1), .val (.int w1), .val (.int l2), .val (.int m2), .val (.int ph2), .val (.int w2), .val (.ref b416), .val (.int (poV (poA Cq438 Bq438 (4 : Int32)) (4 : Int32))), .val (.int (poV (poA Cq439 Bq439 (3 : Int32)) (3 : Int32))), .val (.int (poV (poA Cq440 Bq440 (2 : Int32)) (2 : Int32))), .val (.int (poV (poA Cq441 Bq441 (1 : Int32)) (1 : Int32))), .val (.int (poV (poA Cq442 Bq442 (0 : Int32)) (0 : Int32))), .val (.int (eF (4 : Int32) per l1 m1 ph1 w1 l2 m2 ph2 w2)), .val (.int (eF (3 : Int32) per l1 m1 ph1 w1 l2 m2 ph2 w2)), .val (.int (eF (2 : Int32) per l1 m1 ph1 w1 l2 m2 ph2 w2)), .val (.int (eF (1 : Int32) per l1 m1 ph1 w1 l2 m2 ph2 w2)), .unset] [(.int 1)]))
                          have ke : (eF (0 : Int32) per l1 m1 ph1 w1 l2 m2 ph2 w2) = (1 : Int32) := (if_pos hc451_457).trans (if_neg hc468_459)
                          have kr := K448 _ _ X458 N458 (by rw [e458]; exact Z447) (by rw [e458]; exact V447)
                          rw [ke] at kr
                          exact kr
                      · refine OGets.step (fun _ => XS.ifYes X456.here hx rfl (pc0 := 451) (pc' := 471) rfl (hb hby at_451) rfl ((if0 _ _).trans (feq hc451_457).2) (by decide) (by decide)) ?_
                        show OGets p e below _ (T456.setTop (mkF m 471 #[.val (.int p0), .val (.int p1), .val (.int p2), .val (.int p3), .val (.int p4), .val (.int p5), .val (.int per), .val (.int l1), .val (.int m1), .val (.int ph1), .val (.int w1), .val (.int l2), .val (.int m2), .val (.int ph2), .val (.int w2), .val (.ref b416), .val (.int (poV (poA Cq438 Bq438 (4 : Int32)) (4 : Int32))), .val (.int (poV (poA Cq439 Bq439 (3 : Int32)) (3 : Int32))), .val (.int (poV (poA Cq440 Bq440 (2 : Int32)) (2 : Int32))), .val (.int (poV (poA Cq441 Bq441 (1 : Int32)) (1 : Int32))), .val (.int (poV (poA Cq442 Bq442 (0 : Int32)) (0 : Int32))), .val (.int (eF (4 : Int32) per l1 m1 ph1 w1 l2 m2 ph2 w2)), .val (.int (eF (3 : Int32) per l1 m1 ph1 w1 l2 m2 ph2 w2)), .val (.int (eF (2 : Int32) per l1 m1 ph1 w1 l2 m2 ph2 w2)), .val (.int (eF (1 : Int32) per l1 m1 ph1 w1 l2 m2 ph2 w2)), .unset] []))
                        refine OGets.step (fun _ => XS.iconst X456.here hx rfl (hb hby at_471)) ?_
                        refine OGets.step (fun _ => XS.goto X456.here hx rfl (pc0 := 472) (pc' := 476) rfl (hb hby at_472) (by decide) (by decide)) ?_
                        show OGets p e below _ (T456.setTop (mkF m 476 #[.val (.int p0), .val (.int p1), .val (.int p2), .val (.int p3), .val (.int p4), .val (.int p5), .val (.int per), .val (.int l1), .val (.int m1), .val (.int ph1), .val (.int w1), .val (.int l2), .val (.int m2), .val (.int ph2), .val (.int w2), .val (.ref b416), .val (.int (poV (poA Cq438 Bq438 (4 : Int32)) (4 : Int32))), .val (.int (poV (poA Cq439 Bq439 (3 : Int32)) (3 : Int32))), .val (.int (poV (poA Cq440 Bq440 (2 : Int32)) (2 : Int32))), .val (.int (poV (poA Cq441 Bq441 (1 : Int32)) (1 : Int32))), .val (.int (poV (poA Cq442 Bq442 (0 : Int32)) (0 : Int32))), .val (.int (eF (4 : Int32) per l1 m1 ph1 w1 l2 m2 ph2 w2)), .val (.int (eF (3 : Int32) per l1 m1 ph1 w1 l2 m2 ph2 w2)), .val (.int (eF (2 : Int32) per l1 m1 ph1 w1 l2 m2 ph2 w2)), .val (.int (eF (1 : Int32) per l1 m1 ph1 w1 l2 m2 ph2 w2)), .unset] [(.int 1)]))
                        have ke : (eF (0 : Int32) per l1 m1 ph1 w1 l2 m2 ph2 w2) = (1 : Int32) := if_neg hc451_457
                        have kr := K448 _ _ X456 N456 (by rw [e456]; exact Z447) (by rw [e456]; exact V447)
                        rw [ke] at kr
                        exact kr
                    refine OGets.step (fun _ => XS.iconst X446.here hx rfl (hb hby at_396)) ?_
                    refine OGets.step (fun _ => XS.iload X446.here hx rfl (hb hby at_397) rfl) ?_
                    refine OGets.step (fun _ => XS.iload X446.here hx rfl (hb hby at_399) rfl) ?_
                    refine OGets.step (fun _ => XS.iload X446.here hx rfl (hb hby at_401) rfl) ?_
                    refine OGets.step (fun _ => XS.iload X446.here hx rfl (hb hby at_403) rfl) ?_
                    refine OGets.step (fun _ => XS.iload X446.here hx rfl (hb hby at_405) rfl) ?_
                    show OGets p e below _ (T446.setTop (mkF m 407 #[.val (.int p0), .val (.int p1), .val (.int p2), .val (.int p3), .val (.int p4), .val (.int p5), .val (.int per), .val (.int l1), .val (.int m1), .val (.int ph1), .val (.int w1), .val (.int l2), .val (.int m2), .val (.int ph2), .val (.int w2), .val (.ref b416), .val (.int (poV (poA Cq438 Bq438 (4 : Int32)) (4 : Int32))), .val (.int (poV (poA Cq439 Bq439 (3 : Int32)) (3 : Int32))), .val (.int (poV (poA Cq440 Bq440 (2 : Int32)) (2 : Int32))), .val (.int (poV (poA Cq441 Bq441 (1 : Int32)) (1 : Int32))), .val (.int (poV (poA Cq442 Bq442 (0 : Int32)) (0 : Int32))), .val (.int (eF (4 : Int32) per l1 m1 ph1 w1 l2 m2 ph2 w2)), .val (.int (eF (3 : Int32) per l1 m1 ph1 w1 l2 m2 ph2 w2)), .val (.int (eF (2 : Int32) per l1 m1 ph1 w1 l2 m2 ph2 w2)), .unset, .unset] [(.int w1), (.int ph1), (.int per), (.int m1), (.int l1), (.int 1)]))
                    obtain ⟨_, _, ⟨T460, L460, k460, n460⟩, -, X460, ⟨Lc460, hQ460, l460, y460, z460⟩, st460⟩ := Jvm.LawKit.callS X446 hx (y := (⟨"com/example/pelt/pelt/StackCountsPopPinLaw", "held", "(IIIIII)Z"⟩ : MethodName)) hown (mvT hZ (hw _ (List.mem_of_getElem? (i := 77) rfl))) (mvT hZ (hw _ (List.mem_of_getElem? (i := 78) rfl))) (mvT hZ (hw _ (List.mem_of_getElem? (i := 79) rfl))) (mvT hZ (hw _ (List.mem_of_getElem? (i := 80) rfl))) (by decide) (backOf (W := 0) (rm_held l Z a0 hw [] (1 : Int32) l1 m1 per ph1 w1 T446.heap n0  Z446 (own_nz hP)) hZ (hw _ (List.mem_of_getElem? (i := 80) rfl)) (hw _ (List.mem_of_getElem? (i := 79) rfl)) (by decide) (by decide)) (g := (mkF m 407 #[.val (.int p0), .val (.int p1), .val (.int p2), .val (.int p3), .val (.int p4), .val (.int p5), .val (.int per), .val (.int l1), .val (.int m1), .val (.int ph1), .val (.int w1), .val (.int l2), .val (.int m2), .val (.int ph2), .val (.int w2), .val (.ref b416), .val (.int (poV (poA Cq438 Bq438 (4 : Int32)) (4 : Int32))), .val (.int (poV (poA Cq439 Bq439 (3 : Int32)) (3 : Int32))), .val (.int (poV (poA Cq440 Bq440 (2 : Int32)) (2 : Int32))), .val (.int (poV (poA Cq441 Bq441 (1 : Int32)) (1 : Int32))), .val (.int (poV (poA Cq442 Bq442 (0 : Int32)) (0 : Int32))), .val (.int (eF (4 : Int32) per l1 m1 ph1 w1 l2 m2 ph2 w2)), .val (.int (eF (3 : Int32) per l1 m1 ph1 w1 l2 m2 ph2 w2)), .val (.int (eF (2 : Int32) per l1 m1 ph1 w1 l2 m2 ph2 w2)), .unset, .unset] [(.int w1), (.int ph1), (.int per), (.int m1), (.int l1), (.int 1)])) rfl (by rw [hml]; rfl) (argsL := [(.int 1), (.int l1), (.int m1), (.int per), (.int ph1), (.int w1)]) (rest := []) (lenOf pd_18 rfl) rfl (by show 2 * 0 + _ ≤ _; exact Nat.le_of_eq rfl) (hb hby at_407) (fun _ _ => ⟨rfl, rfl, Nat.le_of_ble_eq_true rfl, Nat.le_of_ble_eq_true rfl⟩)
                    dsimp only [Pt.U, Pt.locs, Pt.cells, Pt.slots] at X460 l460 y460 z460 st460 hQ460
                    rw [l460, y460, z460] at X460
                    obtain ⟨rfl, rfl, e460⟩ := hQ460
                    have N460 := Fr.app N446 (Fr.nil n0)
                    refine OGets.step st460 ?_
                    by_cases hc410_461 : (f_held (1 : Int32) l1 m1 per ph1 w1) = (0 : Int32)
                    · refine OGets.step (fun _ => XS.ifNo X460.here hx rfl (hb hby at_410) rfl ((if0 _ _).trans (teq hc410_461).2)) ?_
                      show OGets p e below _ (T460.setTop (mkF m 413 #[.val (.int p0), .val (.int p1), .val (.int p2), .val (.int p3), .val (.int p4), .val (.int p5), .val (.int per), .val (.int l1), .val (.int m1), .val (.int ph1), .val (.int w1), .val (.int l2), .val (.int m2), .val (.int ph2), .val (.int w2), .val (.ref b416), .val (.int (poV (poA Cq438 Bq438 (4 : Int32)) (4 : Int32))), .val (.int (poV (poA Cq439 Bq439 (3 : Int32)) (3 : Int32))), .val (.int (poV (poA Cq440 Bq440 (2 : Int32)) (2 : Int32))), .val (.int (poV (poA Cq441 Bq441 (1 : Int32)) (1 : Int32))), .val (.int (poV (poA Cq442 Bq442 (0 : Int32)) (0 : Int32))), .val (.int (eF (4 : Int32) per l1 m1 ph1 w1 l2 m2 ph2 w2)), .val (.int (eF (3 : Int32) per l1 m1 ph1 w1 l2 m2 ph2 w2)), .val (.int (eF (2 : Int32) per l1 m1 ph1 w1 l2 m2 ph2 w2)), .unset, .unset] []))
                      refine OGets.step (fun _ => XS.iconst X460.here hx rfl (hb hby at_413)) ?_
                      refine OGets.step (fun _ => XS.iload X460.here hx rfl (hb hby at_414) rfl) ?_
                      refine OGets.step (fun _ => XS.iload X460.here hx rfl (hb hby at_416) rfl) ?_
                      refine OGets.step (fun _ => XS.iload X460.here hx rfl (hb hby at_418) rfl) ?_
                      refine OGets.step (fun _ => XS.iload X460.here hx rfl (hb hby at_420) rfl) ?_
                      refine OGets.step (fun _ => XS.iload X460.here hx rfl (hb hby at_422) rfl) ?_
                      obtain ⟨_, _, ⟨T462, L462, k462, n462⟩, -, X462, ⟨Lc462, hQ462, l462, y462, z462⟩, st462⟩ := Jvm.LawKit.callS X460 hx (y := (⟨"com/example/pelt/pelt/StackCountsPopPinLaw", "held", "(IIIIII)Z"⟩ : MethodName)) hown (mvT hZ (hw _ (List.mem_of_getElem? (i := 77) rfl))) (mvT hZ (hw _ (List.mem_of_getElem? (i := 78) rfl))) (mvT hZ (hw _ (List.mem_of_getElem? (i := 79) rfl))) (mvT hZ (hw _ (List.mem_of_getElem? (i := 80) rfl))) (by decide) (backOf (W := 0) (rm_held l Z a0 hw [] (1 : Int32) l2 m2 per ph2 w2 T446.heap n0  Z446 (own_nz hP)) hZ (hw _ (List.mem_of_getElem? (i := 80) rfl)) (hw _ (List.mem_of_getElem? (i := 79) rfl)) (by decide) (by decide)) (g := (mkF m 424 #[.val (.int p0), .val (.int p1), .val (.int p2), .val (.int p3), .val (.int p4), .val (.int p5), .val (.int per), .val (.int l1), .val (.int m1), .val (.int ph1), .val (.int w1), .val (.int l2), .val (.int m2), .val (.int ph2), .val (.int w2), .val (.ref b416), .val (.int (poV (poA Cq438 Bq438 (4 : Int32)) (4 : Int32))), .val (.int (poV (poA Cq439 Bq439 (3 : Int32)) (3 : Int32))), .val (.int (poV (poA Cq440 Bq440 (2 : Int32)) (2 : Int32))), .val (.int (poV (poA Cq441 Bq441 (1 : Int32)) (1 : Int32))), .val (.int (poV (poA Cq442 Bq442 (0 : Int32)) (0 : Int32))), .val (.int (eF (4 : Int32) per l1 m1 ph1 w1 l2 m2 ph2 w2)), .val (.int (eF (3 : Int32) per l1 m1 ph1 w1 l2 m2 ph2 w2)), .val (.int (eF (2 : Int32) per l1 m1 ph1 w1 l2 m2 ph2 w2)), .unset, .unset] [(.int w2), (.int ph2), (.int per), (.int m2), (.int l2), (.int 1)])) rfl (by rw [hml]; rfl) (argsL := [(.int 1), (.int l2), (.int m2), (.int per), (.int ph2), (.int w2)]) (rest := []) (lenOf pd_18 rfl) rfl (by show 2 * 0 + _ ≤ _; exact Nat.le_of_eq rfl) (hb hby at_424) (fun _ _ => ⟨rfl, e460, Nat.le_of_ble_eq_true rfl, Nat.le_of_ble_eq_true rfl⟩)
                      dsimp only [Pt.U, Pt.locs, Pt.cells, Pt.slots] at X462 l462 y462 z462 st462 hQ462
                      rw [l462, y462, z462] at X462
                      obtain ⟨rfl, rfl, e462⟩ := hQ462
                      have N462 := Fr.app N460 (Fr.nil n0)
                      refine OGets.step st462 ?_
                      show OGets p e below _ (T462.setTop (mkF m 427 #[.val (.int p0), .val (.int p1), .val (.int p2), .val (.int p3), .val (.int p4), .val (.int p5), .val (.int per), .val (.int l1), .val (.int m1), .val (.int ph1), .val (.int w1), .val (.int l2), .val (.int m2), .val (.int ph2), .val (.int w2), .val (.ref b416), .val (.int (poV (poA Cq438 Bq438 (4 : Int32)) (4 : Int32))), .val (.int (poV (poA Cq439 Bq439 (3 : Int32)) (3 : Int32))), .val (.int (poV (poA Cq440 Bq440 (2 : Int32)) (2 : Int32))), .val (.int (poV (poA Cq441 Bq441 (1 : Int32)) (1 : Int32))), .val (.int (poV (poA Cq442 Bq442 (0 : Int32)) (0 : Int32))), .val (.int (eF (4 : Int32) per l1 m1 ph1 w1 l2 m2 ph2 w2)), .val (.int (eF (3 : Int32) per l1 m1 ph1 w1 l2 m2 ph2 w2)), .val (.int (eF (2 : Int32) per l1 m1 ph1 w1 l2 m2 ph2 w2)), .unset, .unset] [(.int (f_held (1 : Int32) l2 m2 per ph2 w2))]))
                      by_cases hc427_463 : (f_held (1 : Int32) l2 m2 per ph2 w2) = (0 : Int32)
                      · refine OGets.step (fun _ => XS.ifYes X462.here hx rfl (pc0 := 427) (pc' := 434) rfl (hb hby at_427) rfl ((if0 _ _).trans (teq hc427_463).1) (by decide) (by decide)) ?_
                        show OGets p e below _ (T462.setTop (mkF m 434 #[.val (.int p0), .val (.int p1), .val (.int p2), .val (.int p3), .val (.int p4), .val (.int p5), .val (.int per), .val (.int l1), .val (.int m1), .val (.int ph1), .val (.int w1), .val (.int l2), .val (.int m2), .val (.int ph2), .val (.int w2), .val (.ref b416), .val (.int (poV (poA Cq438 Bq438 (4 : Int32)) (4 : Int32))), .val (.int (poV (poA Cq439 Bq439 (3 : Int32)) (3 : Int32))), .val (.int (poV (poA Cq440 Bq440 (2 : Int32)) (2 : Int32))), .val (.int (poV (poA Cq441 Bq441 (1 : Int32)) (1 : Int32))), .val (.int (poV (poA Cq442 Bq442 (0 : Int32)) (0 : Int32))), .val (.int (eF (4 : Int32) per l1 m1 ph1 w1 l2 m2 ph2 w2)), .val (.int (eF (3 : Int32) per l1 m1 ph1 w1 l2 m2 ph2 w2)), .val (.int (eF (2 : Int32) per l1 m1 ph1 w1 l2 m2 ph2 w2)), .unset, .unset] []))
                        refine OGets.step (fun _ => XS.iconst X462.here hx rfl (hb hby at_434)) ?_
                        show OGets p e below _ (T462.setTop (mkF m 435 #[.val (.int p0), .val (.int p1), .val (.int p2), .val (.int p3), .val (.int p4), .val (.int p5), .val (.int per), .val (.int l1), .val (.int m1), .val (.int ph1), .val (.int w1), .val (.int l2), .val (.int m2), .val (.int ph2), .val (.int w2), .val (.ref b416), .val (.int (poV (poA Cq438 Bq438 (4 : Int32)) (4 : Int32))), .val (.int (poV (poA Cq439 Bq439 (3 : Int32)) (3 : Int32))), .val (.int (poV (poA Cq440 Bq440 (2 : Int32)) (2 : Int32))), .val (.int (poV (poA Cq441 Bq441 (1 : Int32)) (1 : Int32))), .val (.int (poV (poA Cq442 Bq442 (0 : Int32)) (0 : Int32))), .val (.int (eF (4 : Int32) per l1 m1 ph1 w1 l2 m2 ph2 w2)), .val (.int (eF (3 : Int32) per l1 m1 ph1 w1 l2 m2 ph2 w2)), .val (.int (eF (2 : Int32) per l1 m1 ph1 w1 l2 m2 ph2 w2)), .unset, .unset] [(.int 0)]))
                        have ke : (eF (1 : Int32) per l1 m1 ph1 w1 l2 m2 ph2 w2) = (0 : Int32) := (if_pos hc410_461).trans (if_pos hc427_463)
                        have kr := K447 _ _ X462 N462 (by rw [e462]; exact Z446) (by rw [e462]; exact V446)
                        rw [ke] at kr
                        exact kr
                      · refine OGets.step (fun _ => XS.ifNo X462.here hx rfl (hb hby at_427) rfl ((if0 _ _).trans (feq hc427_463).1)) ?_
                        show OGets p e below _ (T462.setTop (mkF m 430 #[.val (.int p0), .val (.int p1), .val (.int p2), .val (.int p3), .val (.int p4), .val (.int p5), .val (.int per), .val (.int l1), .val (.int m1), .val (.int ph1), .val (.int w1), .val (.int l2), .val (.int m2), .val (.int ph2), .val (.int w2), .val (.ref b416), .val (.int (poV (poA Cq438 Bq438 (4 : Int32)) (4 : Int32))), .val (.int (poV (poA Cq439 Bq439 (3 : Int32)) (3 : Int32))), .val (.int (poV (poA Cq440 Bq440 (2 : Int32)) (2 : Int32))), .val (.int (poV (poA Cq441 Bq441 (1 : Int32)) (1 : Int32))), .val (.int (poV (poA Cq442 Bq442 (0 : Int32)) (0 : Int32))), .val (.int (eF (4 : Int32) per l1 m1 ph1 w1 l2 m2 ph2 w2)), .val (.int (eF (3 : Int32) per l1 m1 ph1 w1 l2 m2 ph2 w2)), .val (.int (eF (2 : Int32) per l1 m1 ph1 w1 l2 m2 ph2 w2)), .unset, .unset] []))
                        refine OGets.step (fun _ => XS.iconst X462.here hx rfl (hb hby at_430)) ?_
                        refine OGets.step (fun _ => XS.goto X462.here hx rfl (pc0 := 431) (pc' := 435) rfl (hb hby at_431) (by decide) (by decide)) ?_
                        show OGets p e below _ (T462.setTop (mkF m 435 #[.val (.int p0), .val (.int p1), .val (.int p2), .val (.int p3), .val (.int p4), .val (.int p5), .val (.int per), .val (.int l1), .val (.int m1), .val (.int ph1), .val (.int w1), .val (.int l2), .val (.int m2), .val (.int ph2), .val (.int w2), .val (.ref b416), .val (.int (poV (poA Cq438 Bq438 (4 : Int32)) (4 : Int32))), .val (.int (poV (poA Cq439 Bq439 (3 : Int32)) (3 : Int32))), .val (.int (poV (poA Cq440 Bq440 (2 : Int32)) (2 : Int32))), .val (.int (poV (poA Cq441 Bq441 (1 : Int32)) (1 : Int32))), .val (.int (poV (poA Cq442 Bq442 (0 : Int32)) (0 : Int32))), .val (.int (eF (4 : Int32) per l1 m1 ph1 w1 l2 m2 ph2 w2)), .val (.int (eF (3 : Int32) per l1 m1 ph1 w1 l2 m2 ph2 w2)), .val (.int (eF (2 : Int32) per l1 m1 ph1 w1 l2 m2 ph2 w2)), .unset, .unset] [(.int 1)]))
                        have ke : (eF (1 : Int32) per l1 m1 ph1 w1 l2 m2 ph2 w2) = (1 : Int32) := (if_pos hc410_461).trans (if_neg hc427_463)
                        have kr := K447 _ _ X462 N462 (by rw [e462]; exact Z446) (by rw [e462]; exact V446)
                        rw [ke] at kr
                        exact kr
                    · refine OGets.step (fun _ => XS.ifYes X460.here hx rfl (pc0 := 410) (pc' := 430) rfl (hb hby at_410) rfl ((if0 _ _).trans (feq hc410_461).2) (by decide) (by decide)) ?_
                      show OGets p e below _ (T460.setTop (mkF m 430 #[.val (.int p0), .val (.int p1), .val (.int p2), .val (.int p3), .val (.int p4), .val (.int p5), .val (.int per), .val (.int l1), .val (.int m1), .val (.int ph1), .val (.int w1), .val (.int l2), .val (.int m2), .val (.int ph2), .val (.int w2), .val (.ref b416), .val (.int (poV (poA Cq438 Bq438 (4 : Int32)) (4 : Int32))), .val (.int (poV (poA Cq439 Bq439 (3 : Int32)) (3 : Int32))), .val (.int (poV (poA Cq440 Bq440 (2 : Int32)) (2 : Int32))), .val (.int (poV (poA Cq441 Bq441 (1 : Int32)) (1 : Int32))), .val (.int (poV (poA Cq442 Bq442 (0 : Int32)) (0 : Int32))), .val (.int (eF (4 : Int32) per l1 m1 ph1 w1 l2 m2 ph2 w2)), .val (.int (eF (3 : Int32) per l1 m1 ph1 w1 l2 m2 ph2 w2)), .val (.int (eF (2 : Int32) per l1 m1 ph1 w1 l2 m2 ph2 w2)), .unset, .unset] []))
                      refine OGets.step (fun _ => XS.iconst X460.here hx rfl (hb hby at_430)) ?_
                      refine OGets.step (fun _ => XS.goto X460.here hx rfl (pc0 := 431) (pc' := 435) rfl (hb hby at_431) (by decide) (by decide)) ?_
                      show OGets p e below _ (T460.setTop (mkF m 435 #[.val (.int p0), .val (.int p1), .val (.int p2), .val (.int p3), .val (.int p4), .val (.int p5), .val (.int per), .val (.int l1), .val (.int m1), .val (.int ph1), .val (.int w1), .val (.int l2), .val (.int m2), .val (.int ph2), .val (.int w2), .val (.ref b416), .val (.int (poV (poA Cq438 Bq438 (4 : Int32)) (4 : Int32))), .val (.int (poV (poA Cq439 Bq439 (3 : Int32)) (3 : Int32))), .val (.int (poV (poA Cq440 Bq440 (2 : Int32)) (2 : Int32))), .val (.int (poV (poA Cq441 Bq441 (1 : Int32)) (1 : Int32))), .val (.int (poV (poA Cq442 Bq442 (0 : Int32)) (0 : Int32))), .val (.int (eF (4 : Int32) per l1 m1 ph1 w1 l2 m2 ph2 w2)), .val (.int (eF (3 : Int32) per l1 m1 ph1 w1 l2 m2 ph2 w2)), .val (.int (eF (2 : Int32) per l1 m1 ph1 w1 l2 m2 ph2 w2)), .unset, .unset] [(.int 1)]))
                      have ke : (eF (1 : Int32) per l1 m1 ph1 w1 l2 m2 ph2 w2) = (1 : Int32) := if_neg hc410_461
                      have kr := K447 _ _ X460 N460 (by rw [e460]; exact Z446) (by rw [e460]; exact V446)
                      rw [ke] at kr
                      exact kr
                  refine OGets.step (fun _ => XS.iconst X445.here hx rfl (hb hby at_355)) ?_
                  refine OGets.step (fun _ => XS.iload X445.here hx rfl (hb hby at_356) rfl) ?_
                  refine OGets.step (fun _ => XS.iload X445.here hx rfl (hb hby at_358) rfl) ?_
                  refine OGets.step (fun _ => XS.iload X445.here hx rfl (hb hby at_360) rfl) ?_
                  refine OGets.step (fun _ => XS.iload X445.here hx rfl (hb hby at_362) rfl) ?_
                  refine OGets.step (fun _ => XS.iload X445.here hx rfl (hb hby at_364) rfl) ?_
                  show OGets p e below _ (T445.setTop (mkF m 366 #[.val (.int p0), .val (.int p1), .val (.int p2), .val (.int p3), .val (.int p4), .val (.int p5), .val (.int per), .val (.int l1), .val (.int m1), .val (.int ph1), .val (.int w1), .val (.int l2), .val (.int m2), .val (.int ph2), .val (.int w2), .val (.ref b416), .val (.int (poV (poA Cq438 Bq438 (4 : Int32)) (4 : Int32))), .val (.int (poV (poA Cq439 Bq439 (3 : Int32)) (3 : Int32))), .val (.int (poV (poA Cq440 Bq440 (2 : Int32)) (2 : Int32))), .val (.int (poV (poA Cq441 Bq441 (1 : Int32)) (1 : Int32))), .val (.int (poV (poA Cq442 Bq442 (0 : Int32)) (0 : Int32))), .val (.int (eF (4 : Int32) per l1 m1 ph1 w1 l2 m2 ph2 w2)), .val (.int (eF (3 : Int32) per l1 m1 ph1 w1 l2 m2 ph2 w2)), .unset, .unset, .unset] [(.int w1), (.int ph1), (.int per), (.int m1), (.int l1), (.int 2)]))
                  obtain ⟨_, _, ⟨T464, L464, k464, n464⟩, -, X464, ⟨Lc464, hQ464, l464, y464, z464⟩, st464⟩ := Jvm.LawKit.callS X445 hx (y := (⟨"com/example/pelt/pelt/StackCountsPopPinLaw", "held", "(IIIIII)Z"⟩ : MethodName)) hown (mvT hZ (hw _ (List.mem_of_getElem? (i := 77) rfl))) (mvT hZ (hw _ (List.mem_of_getElem? (i := 78) rfl))) (mvT hZ (hw _ (List.mem_of_getElem? (i := 79) rfl))) (mvT hZ (hw _ (List.mem_of_getElem? (i := 80) rfl))) (by decide) (backOf (W := 0) (rm_held l Z a0 hw [] (2 : Int32) l1 m1 per ph1 w1 T445.heap n0  Z445 (own_nz hP)) hZ (hw _ (List.mem_of_getElem? (i := 80) rfl)) (hw _ (List.mem_of_getElem? (i := 79) rfl)) (by decide) (by decide)) (g := (mkF m 366 #[.val (.int p0), .val (.int p1), .val (.int p2), .val (.int p3), .val (.int p4), .val (.int p5), .val (.int per), .val (.int l1), .val (.int m1), .val (.int ph1), .val (.int w1), .val (.int l2), .val (.int m2), .val (.int ph2), .val (.int w2), .val (.ref b416), .val (.int (poV (poA Cq438 Bq438 (4 : Int32)) (4 : Int32))), .val (.int (poV (poA Cq439 Bq439 (3 : Int32)) (3 : Int32))), .val (.int (poV (poA Cq440 Bq440 (2 : Int32)) (2 : Int32))), .val (.int (poV (poA Cq441 Bq441 (1 : Int32)) (1 : Int32))), .val (.int (poV (poA Cq442 Bq442 (0 : Int32)) (0 : Int32))), .val (.int (eF (4 : Int32) per l1 m1 ph1 w1 l2 m2 ph2 w2)), .val (.int (eF (3 : Int32) per l1 m1 ph1 w1 l2 m2 ph2 w2)), .unset, .unset, .unset] [(.int w1), (.int ph1), (.int per), (.int m1), (.int l1), (.int 2)])) rfl (by rw [hml]; rfl) (argsL := [(.int 2), (.int l1), (.int m1), (.int per), (.int ph1), (.int w1)]) (rest := []) (lenOf pd_18 rfl) rfl (by show 2 * 0 + _ ≤ _; exact Nat.le_of_eq rfl) (hb hby at_366) (fun _ _ => ⟨rfl, rfl, Nat.le_of_ble_eq_true rfl, Nat.le_of_ble_eq_true rfl⟩)
                  dsimp only [Pt.U, Pt.locs, Pt.cells, Pt.slots] at X464 l464 y464 z464 st464 hQ464
                  rw [l464, y464, z464] at X464
                  obtain ⟨rfl, rfl, e464⟩ := hQ464
                  have N464 := Fr.app N445 (Fr.nil n0)
                  refine OGets.step st464 ?_
                  by_cases hc369_465 : (f_held (2 : Int32) l1 m1 per ph1 w1) = (0 : Int32)
                  · refine OGets.step (fun _ => XS.ifNo X464.here hx rfl (hb hby at_369) rfl ((if0 _ _).trans (teq hc369_465).2)) ?_
                    show OGets p e below _ (T464.setTop (mkF m 372 #[.val (.int p0), .val (.int p1), .val (.int p2), .val (.int p3), .val (.int p4), .val (.int p5), .val (.int per), .val (.int l1), .val (.int m1), .val (.int ph1), .val (.int w1), .val (.int l2), .val (.int m2), .val (.int ph2), .val (.int w2), .val (.ref b416), .val (.int (poV (poA Cq438 Bq438 (4 : Int32)) (4 : Int32))), .val (.int (poV (poA Cq439 Bq439 (3 : Int32)) (3 : Int32))), .val (.int (poV (poA Cq440 Bq440 (2 : Int32)) (2 : Int32))), .val (.int (poV (poA Cq441 Bq441 (1 : Int32)) (1 : Int32))), .val (.int (poV (poA Cq442 Bq442 (0 : Int32)) (0 : Int32))), .val (.int (eF (4 : Int32) per l1 m1 ph1 w1 l2 m2 ph2 w2)), .val (.int (eF (3 : Int32) per l1 m1 ph1 w1 l2 m2 ph2 w2)), .unset, .unset, .unset] []))
                    refine OGets.step (fun _ => XS.iconst X464.here hx rfl (hb hby at_372)) ?_
                    refine OGets.step (fun _ => XS.iload X464.here hx rfl (hb hby at_373) rfl) ?_
                    refine OGets.step (fun _ => XS.iload X464.here hx rfl (hb hby at_375) rfl) ?_
                    refine OGets.step (fun _ => XS.iload X464.here hx rfl (hb hby at_377) rfl) ?_
                    refine OGets.step (fun _ => XS.iload X464.here hx rfl (hb hby at_379) rfl) ?_
                    refine OGets.step (fun _ => XS.iload X464.here hx rfl (hb hby at_381) rfl) ?_
                    obtain ⟨_, _, ⟨T466, L466, k466, n466⟩, -, X466, ⟨Lc466, hQ466, l466, y466, z466⟩, st466⟩ := Jvm.LawKit.callS X464 hx (y := (⟨"com/example/pelt/pelt/StackCountsPopPinLaw", "held", "(IIIIII)Z"⟩ : MethodName)) hown (mvT hZ (hw _ (List.mem_of_getElem? (i := 77) rfl))) (mvT hZ (hw _ (List.mem_of_getElem? (i := 78) rfl))) (mvT hZ (hw _ (List.mem_of_getElem? (i := 79) rfl))) (mvT hZ (hw _ (List.mem_of_getElem? (i := 80) rfl))) (by decide) (backOf (W := 0) (rm_held l Z a0 hw [] (2 : Int32) l2 m2 per ph2 w2 T445.heap n0  Z445 (own_nz hP)) hZ (hw _ (List.mem_of_getElem? (i := 80) rfl)) (hw _ (List.mem_of_getElem? (i := 79) rfl)) (by decide) (by decide)) (g := (mkF m 383 #[.val (.int p0), .val (.int p1), .val (.int p2), .val (.int p3), .val (.int p4), .val (.int p5), .val (.int per), .val (.int l1), .val (.int m1), .val (.int ph1), .val (.int w1), .val (.int l2), .val (.int m2), .val (.int ph2), .val (.int w2), .val (.ref b416), .val (.int (poV (poA Cq438 Bq438 (4 : Int32)) (4 : Int32))), .val (.int (poV (poA Cq439 Bq439 (3 : Int32)) (3 : Int32))), .val (.int (poV (poA Cq440 Bq440 (2 : Int32)) (2 : Int32))), .val (.int (poV (poA Cq441 Bq441 (1 : Int32)) (1 : Int32))), .val (.int (poV (poA Cq442 Bq442 (0 : Int32)) (0 : Int32))), .val (.int (eF (4 : Int32) per l1 m1 ph1 w1 l2 m2 ph2 w2)), .val (.int (eF (3 : Int32) per l1 m1 ph1 w1 l2 m2 ph2 w2)), .unset, .unset, .unset] [(.int w2), (.int ph2), (.int per), (.int m2), (.int l2), (.int 2)])) rfl (by rw [hml]; rfl) (argsL := [(.int 2), (.int l2), (.int m2), (.int per), (.int ph2), (.int w2)]) (rest := []) (lenOf pd_18 rfl) rfl (by show 2 * 0 + _ ≤ _; exact Nat.le_of_eq rfl) (hb hby at_383) (fun _ _ => ⟨rfl, e464, Nat.le_of_ble_eq_true rfl, Nat.le_of_ble_eq_true rfl⟩)
                    dsimp only [Pt.U, Pt.locs, Pt.cells, Pt.slots] at X466 l466 y466 z466 st466 hQ466
                    rw [l466, y466, z466] at X466
                    obtain ⟨rfl, rfl, e466⟩ := hQ466
                    have N466 := Fr.app N464 (Fr.nil n0)
                    refine OGets.step st466 ?_
                    show OGets p e below _ (T466.setTop (mkF m 386 #[.val (.int p0), .val (.int p1), .val (.int p2), .val (.int p3), .val (.int p4), .val (.int p5), .val (.int per), .val (.int l1), .val (.int m1), .val (.int ph1), .val (.int w1), .val (.int l2), .val (.int m2), .val (.int ph2), .val (.int w2), .val (.ref b416), .val (.int (poV (poA Cq438 Bq438 (4 : Int32)) (4 : Int32))), .val (.int (poV (poA Cq439 Bq439 (3 : Int32)) (3 : Int32))), .val (.int (poV (poA Cq440 Bq440 (2 : Int32)) (2 : Int32))), .val (.int (poV (poA Cq441 Bq441 (1 : Int32)) (1 : Int32))), .val (.int (poV (poA Cq442 Bq442 (0 : Int32)) (0 : Int32))), .val (.int (eF (4 : Int32) per l1 m1 ph1 w1 l2 m2 ph2 w2)), .val (.int (eF (3 : Int32) per l1 m1 ph1 w1 l2 m2 ph2 w2)), .unset, .unset, .unset] [(.int (f_held (2 : Int32) l2 m2 per ph2 w2))]))
                    by_cases hc386_467 : (f_held (2 : Int32) l2 m2 per ph2 w2) = (0 : Int32)
                    · refine OGets.step (fun _ => XS.ifYes X466.here hx rfl (pc0 := 386) (pc' := 393) rfl (hb hby at_386) rfl ((if0 _ _).trans (teq hc386_467).1) (by decide) (by decide)) ?_
                      show OGets p e below _ (T466.setTop (mkF m 393 #[.val (.int p0), .val (.int p1), .val (.int p2), .val (.int p3), .val (.int p4), .val (.int p5), .val (.int per), .val (.int l1), .val (.int m1), .val (.int ph1), .val (.int w1), .val (.int l2), .val (.int m2), .val (.int ph2), .val (.int w2), .val (.ref b416), .val (.int (poV (poA Cq438 Bq438 (4 : Int32)) (4 : Int32))), .val (.int (poV (poA Cq439 Bq439 (3 : Int32)) (3 : Int32))), .val (.int (poV (poA Cq440 Bq440 (2 : Int32)) (2 : Int32))), .val (.int (poV (poA Cq441 Bq441 (1 : Int32)) (1 : Int32))), .val (.int (poV (poA Cq442 Bq442 (0 : Int32)) (0 : Int32))), .val (.int (eF (4 : Int32) per l1 m1 ph1 w1 l2 m2 ph2 w2)), .val (.int (eF (3 : Int32) per l1 m1 ph1 w1 l2 m2 ph2 w2)), .unset, .unset, .unset] []))
                      refine OGets.step (fun _ => XS.iconst X466.here hx rfl (hb hby at_393)) ?_
                      show OGets p e below _ (T466.setTop (mkF m 394 #[.val (.int p0), .val (.int p1), .val (.int p2), .val (.int p3), .val (.int p4), .val (.int p5), .val (.int per), .val (.int l1), .val (.int m1), .val (.int ph1), .val (.int w1), .val (.int l2), .val (.int m2), .val (.int ph2), .val (.int w2), .val (.ref b416), .val (.int (poV (poA Cq438 Bq438 (4 : Int32)) (4 : Int32))), .val (.int (poV (poA Cq439 Bq439 (3 : Int32)) (3 : Int32))), .val (.int (poV (poA Cq440 Bq440 (2 : Int32)) (2 : Int32))), .val (.int (poV (poA Cq441 Bq441 (1 : Int32)) (1 : Int32))), .val (.int (poV (poA Cq442 Bq442 (0 : Int32)) (0 : Int32))), .val (.int (eF (4 : Int32) per l1 m1 ph1 w1 l2 m2 ph2 w2)), .val (.int (eF (3 : Int32) per l1 m1 ph1 w1 l2 m2 ph2 w2)), .unset, .unset, .unset] [(.int 0)]))
                      have ke : (eF (2 : Int32) per l1 m1 ph1 w1 l2 m2 ph2 w2) = (0 : Int32) := (if_pos hc369_465).trans (if_pos hc386_467)
                      have kr := K446 _ _ X466 N466 (by rw [e466]; exact Z445) (by rw [e466]; exact V445)
                      rw [ke] at kr
                      exact kr
                    · refine OGets.step (fun _ => XS.ifNo X466.here hx rfl (hb hby at_386) rfl ((if0 _ _).trans (feq hc386_467).1)) ?_
                      show OGets p e below _ (T466.setTop (mkF m 389 #[.val (.int p0), .val (.int p1), .val (.int p2), .val (.int p3), .val (.int p4), .val (.int p5), .val (.int per), .val (.int l1), .val (.int m1), .val (.int ph1), .val (.int w1), .val (.int l2), .val (.int m2), .val (.int ph2), .val (.int w2), .val (.ref b416), .val (.int (poV (poA Cq438 Bq438 (4 : Int32)) (4 : Int32))), .val (.int (poV (poA Cq439 Bq439 (3 : Int32)) (3 : Int32))), .val (.int (poV (poA Cq440 Bq440 (2 : Int32)) (2 : Int32))), .val (.int (poV (poA Cq441 Bq441 (1 : Int32)) (1 : Int32))), .val (.int (poV (poA Cq442 Bq442 (0 : Int32)) (0 : Int32))), .val (.int (eF (4 : Int32) per l1 m1 ph1 w1 l2 m2 ph2 w2)), .val (.int (eF (3 : Int32) per l1 m1 ph1 w1 l2 m2 ph2 w2)), .unset, .unset, .unset] []))
                      refine OGets.step (fun _ => XS.iconst X466.here hx rfl (hb hby at_389)) ?_
                      refine OGets.step (fun _ => XS.goto X466.here hx rfl (pc0 := 390) (pc' := 394) rfl (hb hby at_390) (by decide) (by decide)) ?_
                      show OGets p e below _ (T466.setTop (mkF m 394 #[.val (.int p0), .val (.int p1), .val (.int p2), .val (.int p3), .val (.int p4), .val (.int p5), .val (.int per), .val (.int l1), .val (.int m1), .val (.int ph1), .val (.int w1), .val (.int l2), .val (.int m2), .val (.int ph2), .val (.int w2), .val (.ref b416), .val (.int (poV (poA Cq438 Bq438 (4 : Int32)) (4 : Int32))), .val (.int (poV (poA Cq439 Bq439 (3 : Int32)) (3 : Int32))), .val (.int (poV (poA Cq440 Bq440 (2 : Int32)) (2 : Int32))), .val (.int (poV (poA Cq441 Bq441 (1 : Int32)) (1 : Int32))), .val (.int (poV (poA Cq442 Bq442 (0 : Int32)) (0 : Int32))), .val (.int (eF (4 : Int32) per l1 m1 ph1 w1 l2 m2 ph2 w2)), .val (.int (eF (3 : Int32) per l1 m1 ph1 w1 l2 m2 ph2 w2)), .unset, .unset, .unset] [(.int 1)]))
                      have ke : (eF (2 : Int32) per l1 m1 ph1 w1 l2 m2 ph2 w2) = (1 : Int32) := (if_pos hc369_465).trans (if_neg hc386_467)
                      have kr := K446 _ _ X466 N466 (by rw [e466]; exact Z445) (by rw [e466]; exact V445)
                      rw [ke] at kr
                      exact kr
                  · refine OGets.step (fun _ => XS.ifYes X464.here hx rfl (pc0 := 369) (pc' := 389) rfl (hb hby at_369) rfl ((if0 _ _).trans (feq hc369_465).2) (by decide) (by decide)) ?_
                    show OGets p e below _ (T464.setTop (mkF m 389 #[.val (.int p0), .val (.int p1), .val (.int p2), .val (.int p3), .val (.int p4), .val (.int p5), .val (.int per), .val (.int l1), .val (.int m1), .val (.int ph1), .val (.int w1), .val (.int l2), .val (.int m2), .val (.int ph2), .val (.int w2), .val (.ref b416), .val (.int (poV (poA Cq438 Bq438 (4 : Int32)) (4 : Int32))), .val (.int (poV (poA Cq439 Bq439 (3 : Int32)) (3 : Int32))), .val (.int (poV (poA Cq440 Bq440 (2 : Int32)) (2 : Int32))), .val (.int (poV (poA Cq441 Bq441 (1 : Int32)) (1 : Int32))), .val (.int (poV (poA Cq442 Bq442 (0 : Int32)) (0 : Int32))), .val (.int (eF (4 : Int32) per l1 m1 ph1 w1 l2 m2 ph2 w2)), .val (.int (eF (3 : Int32) per l1 m1 ph1 w1 l2 m2 ph2 w2)), .unset, .unset, .unset] []))
                    refine OGets.step (fun _ => XS.iconst X464.here hx rfl (hb hby at_389)) ?_
                    refine OGets.step (fun _ => XS.goto X464.here hx rfl (pc0 := 390) (pc' := 394) rfl (hb hby at_390) (by decide) (by decide)) ?_
                    show OGets p e below _ (T464.setTop (mkF m 394 #[.val (.int p0), .val (.int p1), .val (.int p2), .val (.int p3), .val (.int p4), .val (.int p5), .val (.int per), .val (.int l1), .val (.int m1), .val (.int ph1), .val (.int w1), .val (.int l2), .val (.int m2), .val (.int ph2), .val (.int w2), .val (.ref b416), .val (.int (poV (poA Cq438 Bq438 (4 : Int32)) (4 : Int32))), .val (.int (poV (poA Cq439 Bq439 (3 : Int32)) (3 : Int32))), .val (.int (poV (poA Cq440 Bq440 (2 : Int32)) (2 : Int32))), .val (.int (poV (poA Cq441 Bq441 (1 : Int32)) (1 : Int32))), .val (.int (poV (poA Cq442 Bq442 (0 : Int32)) (0 : Int32))), .val (.int (eF (4 : Int32) per l1 m1 ph1 w1 l2 m2 ph2 w2)), .val (.int (eF (3 : Int32) per l1 m1 ph1 w1 l2 m2 ph2 w2)), .unset, .unset, .unset] [(.int 1)]))
                    have ke : (eF (2 : Int32) per l1 m1 ph1 w1 l2 m2 ph2 w2) = (1 : Int32) := if_neg hc369_465
                    have kr := K446 _ _ X464 N464 (by rw [e464]; exact Z445) (by rw [e464]; exact V445)
                    rw [ke] at kr
                    exact kr
                refine OGets.step (fun _ => XS.iconst X444.here hx rfl (hb hby at_314)) ?_
                refine OGets.step (fun _ => XS.iload X444.here hx rfl (hb hby at_315) rfl) ?_
                refine OGets.step (fun _ => XS.iload X444.here hx rfl (hb hby at_317) rfl) ?_
                refine OGets.step (fun _ => XS.iload X444.here hx rfl (hb hby at_319) rfl) ?_
                refine OGets.step (fun _ => XS.iload X444.here hx rfl (hb hby at_321) rfl) ?_
                refine OGets.step (fun _ => XS.iload X444.here hx rfl (hb hby at_323) rfl) ?_
                show OGets p e below _ (T444.setTop (mkF m 325 #[.val (.int p0), .val (.int p1), .val (.int p2), .val (.int p3), .val (.int p4), .val (.int p5), .val (.int per), .val (.int l1), .val (.int m1), .val (.int ph1), .val (.int w1), .val (.int l2), .val (.int m2), .val (.int ph2), .val (.int w2), .val (.ref b416), .val (.int (poV (poA Cq438 Bq438 (4 : Int32)) (4 : Int32))), .val (.int (poV (poA Cq439 Bq439 (3 : Int32)) (3 : Int32))), .val (.int (poV (poA Cq440 Bq440 (2 : Int32)) (2 : Int32))), .val (.int (poV (poA Cq441 Bq441 (1 : Int32)) (1 : Int32))), .val (.int (poV (poA Cq442 Bq442 (0 : Int32)) (0 : Int32))), .val (.int (eF (4 : Int32) per l1 m1 ph1 w1 l2 m2 ph2 w2)), .unset, .unset, .unset, .unset] [(.int w1), (.int ph1), (.int per), (.int m1), (.int l1), (.int 3)]))
                obtain ⟨_, _, ⟨T468, L468, k468, n468⟩, -, X468, ⟨Lc468, hQ468, l468, y468, z468⟩, st468⟩ := Jvm.LawKit.callS X444 hx (y := (⟨"com/example/pelt/pelt/StackCountsPopPinLaw", "held", "(IIIIII)Z"⟩ : MethodName)) hown (mvT hZ (hw _ (List.mem_of_getElem? (i := 77) rfl))) (mvT hZ (hw _ (List.mem_of_getElem? (i := 78) rfl))) (mvT hZ (hw _ (List.mem_of_getElem? (i := 79) rfl))) (mvT hZ (hw _ (List.mem_of_getElem? (i := 80) rfl))) (by decide) (backOf (W := 0) (rm_held l Z a0 hw [] (3 : Int32) l1 m1 per ph1 w1 T444.heap n0  Z444 (own_nz hP)) hZ (hw _ (List.mem_of_getElem? (i := 80) rfl)) (hw _ (List.mem_of_getElem? (i := 79) rfl)) (by decide) (by decide)) (g := (mkF m 325 #[.val (.int p0), .val (.int p1), .val (.int p2), .val (.int p3), .val (.int p4), .val (.int p5), .val (.int per), .val (.int l1), .val (.int m1), .val (.int ph1), .val (.int w1), .val (.int l2), .val (.int m2), .val (.int ph2), .val (.int w2), .val (.ref b416), .val (.int (poV (poA Cq438 Bq438 (4 : Int32)) (4 : Int32))), .val (.int (poV (poA Cq439 Bq439 (3 : Int32)) (3 : Int32))), .val (.int (poV (poA Cq440 Bq440 (2 : Int32)) (2 : Int32))), .val (.int (poV (poA Cq441 Bq441 (1 : Int32)) (1 : Int32))), .val (.int (poV (poA Cq442 Bq442 (0 : Int32)) (0 : Int32))), .val (.int (eF (4 : Int32) per l1 m1 ph1 w1 l2 m2 ph2 w2)), .unset, .unset, .unset, .unset] [(.int w1), (.int ph1), (.int per), (.int m1), (.int l1), (.int 3)])) rfl (by rw [hml]; rfl) (argsL := [(.int 3), (.int l1), (.int m1), (.int per), (.int ph1), (.int w1)]) (rest := []) (lenOf pd_18 rfl) rfl (by show 2 * 0 + _ ≤ _; exact Nat.le_of_eq rfl) (hb hby at_325) (fun _ _ => ⟨rfl, rfl, Nat.le_of_ble_eq_true rfl, Nat.le_of_ble_eq_true rfl⟩)
                dsimp only [Pt.U, Pt.locs, Pt.cells, Pt.slots] at X468 l468 y468 z468 st468 hQ468
                rw [l468, y468, z468] at X468
                obtain ⟨rfl, rfl, e468⟩ := hQ468
                have N468 := Fr.app N444 (Fr.nil n0)
                refine OGets.step st468 ?_
                by_cases hc328_469 : (f_held (3 : Int32) l1 m1 per ph1 w1) = (0 : Int32)
                · refine OGets.step (fun _ => XS.ifNo X468.here hx rfl (hb hby at_328) rfl ((if0 _ _).trans (teq hc328_469).2)) ?_
                  show OGets p e below _ (T468.setTop (mkF m 331 #[.val (.int p0), .val (.int p1), .val (.int p2), .val (.int p3), .val (.int p4), .val (.int p5), .val (.int per), .val (.int l1), .val (.int m1), .val (.int ph1), .val (.int w1), .val (.int l2), .val (.int m2), .val (.int ph2), .val (.int w2), .val (.ref b416), .val (.int (poV (poA Cq438 Bq438 (4 : Int32)) (4 : Int32))), .val (.int (poV (poA Cq439 Bq439 (3 : Int32)) (3 : Int32))), .val (.int (poV (poA Cq440 Bq440 (2 : Int32)) (2 : Int32))), .val (.int (poV (poA Cq441 Bq441 (1 : Int32)) (1 : Int32))), .val (.int (poV (poA Cq442 Bq442 (0 : Int32)) (0 : Int32))), .val (.int (eF (4 : Int32) per l1 m1 ph1 w1 l2 m2 ph2 w2)), .unset, .unset, .unset, .unset] []))
                  refine OGets.step (fun _ => XS.iconst X468.here hx rfl (hb hby at_331)) ?_
                  refine OGets.step (fun _ => XS.iload X468.here hx rfl (hb hby at_332) rfl) ?_
                  refine OGets.step (fun _ => XS.iload X468.here hx rfl (hb hby at_334) rfl) ?_
                  refine OGets.step (fun _ => XS.iload X468.here hx rfl (hb hby at_336) rfl) ?_
                  refine OGets.step (fun _ => XS.iload X468.here hx rfl (hb hby at_338) rfl) ?_
                  refine OGets.step (fun _ => XS.iload X468.here hx rfl (hb hby at_340) rfl) ?_
                  obtain ⟨_, _, ⟨T470, L470, k470, n470⟩, -, X470, ⟨Lc470, hQ470, l470, y470, z470⟩, st470⟩ := Jvm.LawKit.callS X468 hx (y := (⟨"com/example/pelt/pelt/StackCountsPopPinLaw", "held", "(IIIIII)Z"⟩ : MethodName)) hown (mvT hZ (hw _ (List.mem_of_getElem? (i := 77) rfl))) (mvT hZ (hw _ (List.mem_of_getElem? (i := 78) rfl))) (mvT hZ (hw _ (List.mem_of_getElem? (i := 79) rfl))) (mvT hZ (hw _ (List.mem_of_getElem? (i := 80) rfl))) (by decide) (backOf (W := 0) (rm_held l Z a0 hw [] (3 : Int32) l2 m2 per ph2 w2 T444.heap n0  Z444 (own_nz hP)) hZ (hw _ (List.mem_of_getElem? (i := 80) rfl)) (hw _ (List.mem_of_getElem? (i := 79) rfl)) (by decide) (by decide)) (g := (mkF m 342 #[.val (.int p0), .val (.int p1), .val (.int p2), .val (.int p3), .val (.int p4), .val (.int p5), .val (.int per), .val (.int l1), .val (.int m1), .val (.int ph1), .val (.int w1), .val (.int l2), .val (.int m2), .val (.int ph2), .val (.int w2), .val (.ref b416), .val (.int (poV (poA Cq438 Bq438 (4 : Int32)) (4 : Int32))), .val (.int (poV (poA Cq439 Bq439 (3 : Int32)) (3 : Int32))), .val (.int (poV (poA Cq440 Bq440 (2 : Int32)) (2 : Int32))), .val (.int (poV (poA Cq441 Bq441 (1 : Int32)) (1 : Int32))), .val (.int (poV (poA Cq442 Bq442 (0 : Int32)) (0 : Int32))), .val (.int (eF (4 : Int32) per l1 m1 ph1 w1 l2 m2 ph2 w2)), .unset, .unset, .unset, .unset] [(.int w2), (.int ph2), (.int per), (.int m2), (.int l2), (.int 3)])) rfl (by rw [hml]; rfl) (argsL := [(.int 3), (.int l2), (.int m2), (.int per), (.int ph2), (.int w2)]) (rest := []) (lenOf pd_18 rfl) rfl (by show 2 * 0 + _ ≤ _; exact Nat.le_of_eq rfl) (hb hby at_342) (fun _ _ => ⟨rfl, e468, Nat.le_of_ble_eq_true rfl, Nat.le_of_ble_eq_true rfl⟩)
                  dsimp only [Pt.U, Pt.locs, Pt.cells, Pt.slots] at X470 l470 y470 z470 st470 hQ470
                  rw [l470, y470, z470] at X470
                  obtain ⟨rfl, rfl, e470⟩ := hQ470
                  have N470 := Fr.app N468 (Fr.nil n0)
                  refine OGets.step st470 ?_
                  show OGets p e below _ (T470.setTop (mkF m 345 #[.val (.int p0), .val (.int p1), .val (.int p2), .val (.int p3), .val (.int p4), .val (.int p5), .val (.int per), .val (.int l1), .val (.int m1), .val (.int ph1), .val (.int w1), .val (.int l2), .val (.int m2), .val (.int ph2), .val (.int w2), .val (.ref b416), .val (.int (poV (poA Cq438 Bq438 (4 : Int32)) (4 : Int32))), .val (.int (poV (poA Cq439 Bq439 (3 : Int32)) (3 : Int32))), .val (.int (poV (poA Cq440 Bq440 (2 : Int32)) (2 : Int32))), .val (.int (poV (poA Cq441 Bq441 (1 : Int32)) (1 : Int32))), .val (.int (poV (poA Cq442 Bq442 (0 : Int32)) (0 : Int32))), .val (.int (eF (4 : Int32) per l1 m1 ph1 w1 l2 m2 ph2 w2)), .unset, .unset, .unset, .unset] [(.int (f_held (3 : Int32) l2 m2 per ph2 w2))]))
                  by_cases hc345_471 : (f_held (3 : Int32) l2 m2 per ph2 w2) = (0 : Int32)
                  · refine OGets.step (fun _ => XS.ifYes X470.here hx rfl (pc0 := 345) (pc' := 352) rfl (hb hby at_345) rfl ((if0 _ _).trans (teq hc345_471).1) (by decide) (by decide)) ?_
                    show OGets p e below _ (T470.setTop (mkF m 352 #[.val (.int p0), .val (.int p1), .val (.int p2), .val (.int p3), .val (.int p4), .val (.int p5), .val (.int per), .val (.int l1), .val (.int m1), .val (.int ph1), .val (.int w1), .val (.int l2), .val (.int m2), .val (.int ph2), .val (.int w2), .val (.ref b416), .val (.int (poV (poA Cq438 Bq438 (4 : Int32)) (4 : Int32))), .val (.int (poV (poA Cq439 Bq439 (3 : Int32)) (3 : Int32))), .val (.int (poV (poA Cq440 Bq440 (2 : Int32)) (2 : Int32))), .val (.int (poV (poA Cq441 Bq441 (1 : Int32)) (1 : Int32))), .val (.int (poV (poA Cq442 Bq442 (0 : Int32)) (0 : Int32))), .val (.int (eF (4 : Int32) per l1 m1 ph1 w1 l2 m2 ph2 w2)), .unset, .unset, .unset, .unset] []))
                    refine OGets.step (fun _ => XS.iconst X470.here hx rfl (hb hby at_352)) ?_
                    show OGets p e below _ (T470.setTop (mkF m 353 #[.val (.int p0), .val (.int p1), .val (.int p2), .val (.int p3), .val (.int p4), .val (.int p5), .val (.int per), .val (.int l1), .val (.int m1), .val (.int ph1), .val (.int w1), .val (.int l2), .val (.int m2), .val (.int ph2), .val (.int w2), .val (.ref b416), .val (.int (poV (poA Cq438 Bq438 (4 : Int32)) (4 : Int32))), .val (.int (poV (poA Cq439 Bq439 (3 : Int32)) (3 : Int32))), .val (.int (poV (poA Cq440 Bq440 (2 : Int32)) (2 : Int32))), .val (.int (poV (poA Cq441 Bq441 (1 : Int32)) (1 : Int32))), .val (.int (poV (poA Cq442 Bq442 (0 : Int32)) (0 : Int32))), .val (.int (eF (4 : Int32) per l1 m1 ph1 w1 l2 m2 ph2 w2)), .unset, .unset, .unset, .unset] [(.int 0)]))
                    have ke : (eF (3 : Int32) per l1 m1 ph1 w1 l2 m2 ph2 w2) = (0 : Int32) := (if_pos hc328_469).trans (if_pos hc345_471)
                    have kr := K445 _ _ X470 N470 (by rw [e470]; exact Z444) (by rw [e470]; exact V444)
                    rw [ke] at kr
                    exact kr
                  · refine OGets.step (fun _ => XS.ifNo X470.here hx rfl (hb hby at_345) rfl ((if0 _ _).trans (feq hc345_471).1)) ?_
                    show OGets p e below _ (T470.setTop (mkF m 348 #[.val (.int p0), .val (.int p1), .val (.int p2), .val (.int p3), .val (.int p4), .val (.int p5), .val (.int per), .val (.int l1), .val (.int m1), .val (.int ph1), .val (.int w1), .val (.int l2), .val (.int m2), .val (.int ph2), .val (.int w2), .val (.ref b416), .val (.int (poV (poA Cq438 Bq438 (4 : Int32)) (4 : Int32))), .val (.int (poV (poA Cq439 Bq439 (3 : Int32)) (3 : Int32))), .val (.int (poV (poA Cq440 Bq440 (2 : Int32)) (2 : Int32))), .val (.int (poV (poA Cq441 Bq441 (1 : Int32)) (1 : Int32))), .val (.int (poV (poA Cq442 Bq442 (0 : Int32)) (0 : Int32))), .val (.int (eF (4 : Int32) per l1 m1 ph1 w1 l2 m2 ph2 w2)), .unset, .unset, .unset, .unset] []))
                    refine OGets.step (fun _ => XS.iconst X470.here hx rfl (hb hby at_348)) ?_
                    refine OGets.step (fun _ => XS.goto X470.here hx rfl (pc0 := 349) (pc' := 353) rfl (hb hby at_349) (by decide) (by decide)) ?_
                    show OGets p e below _ (T470.setTop (mkF m 353 #[.val (.int p0), .val (.int p1), .val (.int p2), .val (.int p3), .val (.int p4), .val (.int p5), .val (.int per), .val (.int l1), .val (.int m1), .val (.int ph1), .val (.int w1), .val (.int l2), .val (.int m2), .val (.int ph2), .val (.int w2), .val (.ref b416), .val (.int (poV (poA Cq438 Bq438 (4 : Int32)) (4 : Int32))), .val (.int (poV (poA Cq439 Bq439 (3 : Int32)) (3 : Int32))), .val (.int (poV (poA Cq440 Bq440 (2 : Int32)) (2 : Int32))), .val (.int (poV (poA Cq441 Bq441 (1 : Int32)) (1 : Int32))), .val (.int (poV (poA Cq442 Bq442 (0 : Int32)) (0 : Int32))), .val (.int (eF (4 : Int32) per l1 m1 ph1 w1 l2 m2 ph2 w2)), .unset, .unset, .unset, .unset] [(.int 1)]))
                    have ke : (eF (3 : Int32) per l1 m1 ph1 w1 l2 m2 ph2 w2) = (1 : Int32) := (if_pos hc328_469).trans (if_neg hc345_471)
                    have kr := K445 _ _ X470 N470 (by rw [e470]; exact Z444) (by rw [e470]; exact V444)
                    rw [ke] at kr
                    exact kr
                · refine OGets.step (fun _ => XS.ifYes X468.here hx rfl (pc0 := 328) (pc' := 348) rfl (hb hby at_328) rfl ((if0 _ _).trans (feq hc328_469).2) (by decide) (by decide)) ?_
                  show OGets p e below _ (T468.setTop (mkF m 348 #[.val (.int p0), .val (.int p1), .val (.int p2), .val (.int p3), .val (.int p4), .val (.int p5), .val (.int per), .val (.int l1), .val (.int m1), .val (.int ph1), .val (.int w1), .val (.int l2), .val (.int m2), .val (.int ph2), .val (.int w2), .val (.ref b416), .val (.int (poV (poA Cq438 Bq438 (4 : Int32)) (4 : Int32))), .val (.int (poV (poA Cq439 Bq439 (3 : Int32)) (3 : Int32))), .val (.int (poV (poA Cq440 Bq440 (2 : Int32)) (2 : Int32))), .val (.int (poV (poA Cq441 Bq441 (1 : Int32)) (1 : Int32))), .val (.int (poV (poA Cq442 Bq442 (0 : Int32)) (0 : Int32))), .val (.int (eF (4 : Int32) per l1 m1 ph1 w1 l2 m2 ph2 w2)), .unset, .unset, .unset, .unset] []))
                  refine OGets.step (fun _ => XS.iconst X468.here hx rfl (hb hby at_348)) ?_
                  refine OGets.step (fun _ => XS.goto X468.here hx rfl (pc0 := 349) (pc' := 353) rfl (hb hby at_349) (by decide) (by decide)) ?_
                  show OGets p e below _ (T468.setTop (mkF m 353 #[.val (.int p0), .val (.int p1), .val (.int p2), .val (.int p3), .val (.int p4), .val (.int p5), .val (.int per), .val (.int l1), .val (.int m1), .val (.int ph1), .val (.int w1), .val (.int l2), .val (.int m2), .val (.int ph2), .val (.int w2), .val (.ref b416), .val (.int (poV (poA Cq438 Bq438 (4 : Int32)) (4 : Int32))), .val (.int (poV (poA Cq439 Bq439 (3 : Int32)) (3 : Int32))), .val (.int (poV (poA Cq440 Bq440 (2 : Int32)) (2 : Int32))), .val (.int (poV (poA Cq441 Bq441 (1 : Int32)) (1 : Int32))), .val (.int (poV (poA Cq442 Bq442 (0 : Int32)) (0 : Int32))), .val (.int (eF (4 : Int32) per l1 m1 ph1 w1 l2 m2 ph2 w2)), .unset, .unset, .unset, .unset] [(.int 1)]))
                  have ke : (eF (3 : Int32) per l1 m1 ph1 w1 l2 m2 ph2 w2) = (1 : Int32) := if_neg hc328_469
                  have kr := K445 _ _ X468 N468 (by rw [e468]; exact Z444) (by rw [e468]; exact V444)
                  rw [ke] at kr
                  exact kr
              refine OGets.step (fun _ => XS.iconst X443.here hx rfl (hb hby at_273)) ?_
              refine OGets.step (fun _ => XS.iload X443.here hx rfl (hb hby at_274) rfl) ?_
              refine OGets.step (fun _ => XS.iload X443.here hx rfl (hb hby at_276) rfl) ?_
              refine OGets.step (fun _ => XS.iload X443.here hx rfl (hb hby at_278) rfl) ?_
              refine OGets.step (fun _ => XS.iload X443.here hx rfl (hb hby at_280) rfl) ?_
              refine OGets.step (fun _ => XS.iload X443.here hx rfl (hb hby at_282) rfl) ?_
              show OGets p e below _ (T443.setTop (mkF m 284 #[.val (.int p0), .val (.int p1), .val (.int p2), .val (.int p3), .val (.int p4), .val (.int p5), .val (.int per), .val (.int l1), .val (.int m1), .val (.int ph1), .val (.int w1), .val (.int l2), .val (.int m2), .val (.int ph2), .val (.int w2), .val (.ref b416), .val (.int (poV (poA Cq438 Bq438 (4 : Int32)) (4 : Int32))), .val (.int (poV (poA Cq439 Bq439 (3 : Int32)) (3 : Int32))), .val (.int (poV (poA Cq440 Bq440 (2 : Int32)) (2 : Int32))), .val (.int (poV (poA Cq441 Bq441 (1 : Int32)) (1 : Int32))), .val (.int (poV (poA Cq442 Bq442 (0 : Int32)) (0 : Int32))), .unset, .unset, .unset, .unset, .unset] [(.int w1), (.int ph1), (.int per), (.int m1), (.int l1), (.int 4)]))
              obtain ⟨_, _, ⟨T472, L472, k472, n472⟩, -, X472, ⟨Lc472, hQ472, l472, y472, z472⟩, st472⟩ := Jvm.LawKit.callS X443 hx (y := (⟨"com/example/pelt/pelt/StackCountsPopPinLaw", "held", "(IIIIII)Z"⟩ : MethodName)) hown (mvT hZ (hw _ (List.mem_of_getElem? (i := 77) rfl))) (mvT hZ (hw _ (List.mem_of_getElem? (i := 78) rfl))) (mvT hZ (hw _ (List.mem_of_getElem? (i := 79) rfl))) (mvT hZ (hw _ (List.mem_of_getElem? (i := 80) rfl))) (by decide) (backOf (W := 0) (rm_held l Z a0 hw [] (4 : Int32) l1 m1 per ph1 w1 T443.heap n0  Z443 (own_nz hP)) hZ (hw _ (List.mem_of_getElem? (i := 80) rfl)) (hw _ (List.mem_of_getElem? (i := 79) rfl)) (by decide) (by decide)) (g := (mkF m 284 #[.val (.int p0), .val (.int p1), .val (.int p2), .val (.int p3), .val (.int p4), .val (.int p5), .val (.int per), .val (.int l1), .val (.int m1), .val (.int ph1), .val (.int w1), .val (.int l2), .val (.int m2), .val (.int ph2), .val (.int w2), .val (.ref b416), .val (.int (poV (poA Cq438 Bq438 (4 : Int32)) (4 : Int32))), .val (.int (poV (poA Cq439 Bq439 (3 : Int32)) (3 : Int32))), .val (.int (poV (poA Cq440 Bq440 (2 : Int32)) (2 : Int32))), .val (.int (poV (poA Cq441 Bq441 (1 : Int32)) (1 : Int32))), .val (.int (poV (poA Cq442 Bq442 (0 : Int32)) (0 : Int32))), .unset, .unset, .unset, .unset, .unset] [(.int w1), (.int ph1), (.int per), (.int m1), (.int l1), (.int 4)])) rfl (by rw [hml]; rfl) (argsL := [(.int 4), (.int l1), (.int m1), (.int per), (.int ph1), (.int w1)]) (rest := []) (lenOf pd_18 rfl) rfl (by show 2 * 0 + _ ≤ _; exact Nat.le_of_eq rfl) (hb hby at_284) (fun _ _ => ⟨rfl, rfl, Nat.le_of_ble_eq_true rfl, Nat.le_of_ble_eq_true rfl⟩)
              dsimp only [Pt.U, Pt.locs, Pt.cells, Pt.slots] at X472 l472 y472 z472 st472 hQ472
              rw [l472, y472, z472] at X472
              obtain ⟨rfl, rfl, e472⟩ := hQ472
              have N472 := Fr.app N443 (Fr.nil n0)
              refine OGets.step st472 ?_
              by_cases hc287_473 : (f_held (4 : Int32) l1 m1 per ph1 w1) = (0 : Int32)
              · refine OGets.step (fun _ => XS.ifNo X472.here hx rfl (hb hby at_287) rfl ((if0 _ _).trans (teq hc287_473).2)) ?_
                show OGets p e below _ (T472.setTop (mkF m 290 #[.val (.int p0), .val (.int p1), .val (.int p2), .val (.int p3), .val (.int p4), .val (.int p5), .val (.int per), .val (.int l1), .val (.int m1), .val (.int ph1), .val (.int w1), .val (.int l2), .val (.int m2), .val (.int ph2), .val (.int w2), .val (.ref b416), .val (.int (poV (poA Cq438 Bq438 (4 : Int32)) (4 : Int32))), .val (.int (poV (poA Cq439 Bq439 (3 : Int32)) (3 : Int32))), .val (.int (poV (poA Cq440 Bq440 (2 : Int32)) (2 : Int32))), .val (.int (poV (poA Cq441 Bq441 (1 : Int32)) (1 : Int32))), .val (.int (poV (poA Cq442 Bq442 (0 : Int32)) (0 : Int32))), .unset, .unset, .unset, .unset, .unset] []))
                refine OGets.step (fun _ => XS.iconst X472.here hx rfl (hb hby at_290)) ?_
                refine OGets.step (fun _ => XS.iload X472.here hx rfl (hb hby at_291) rfl) ?_
                refine OGets.step (fun _ => XS.iload X472.here hx rfl (hb hby at_293) rfl) ?_
                refine OGets.step (fun _ => XS.iload X472.here hx rfl (hb hby at_295) rfl) ?_
                refine OGets.step (fun _ => XS.iload X472.here hx rfl (hb hby at_297) rfl) ?_
                refine OGets.step (fun _ => XS.iload X472.here hx rfl (hb hby at_299) rfl) ?_
                obtain ⟨_, _, ⟨T474, L474, k474, n474⟩, -, X474, ⟨Lc474, hQ474, l474, y474, z474⟩, st474⟩ := Jvm.LawKit.callS X472 hx (y := (⟨"com/example/pelt/pelt/StackCountsPopPinLaw", "held", "(IIIIII)Z"⟩ : MethodName)) hown (mvT hZ (hw _ (List.mem_of_getElem? (i := 77) rfl))) (mvT hZ (hw _ (List.mem_of_getElem? (i := 78) rfl))) (mvT hZ (hw _ (List.mem_of_getElem? (i := 79) rfl))) (mvT hZ (hw _ (List.mem_of_getElem? (i := 80) rfl))) (by decide) (backOf (W := 0) (rm_held l Z a0 hw [] (4 : Int32) l2 m2 per ph2 w2 T443.heap n0  Z443 (own_nz hP)) hZ (hw _ (List.mem_of_getElem? (i := 80) rfl)) (hw _ (List.mem_of_getElem? (i := 79) rfl)) (by decide) (by decide)) (g := (mkF m 301 #[.val (.int p0), .val (.int p1), .val (.int p2), .val (.int p3), .val (.int p4), .val (.int p5), .val (.int per), .val (.int l1), .val (.int m1), .val (.int ph1), .val (.int w1), .val (.int l2), .val (.int m2), .val (.int ph2), .val (.int w2), .val (.ref b416), .val (.int (poV (poA Cq438 Bq438 (4 : Int32)) (4 : Int32))), .val (.int (poV (poA Cq439 Bq439 (3 : Int32)) (3 : Int32))), .val (.int (poV (poA Cq440 Bq440 (2 : Int32)) (2 : Int32))), .val (.int (poV (poA Cq441 Bq441 (1 : Int32)) (1 : Int32))), .val (.int (poV (poA Cq442 Bq442 (0 : Int32)) (0 : Int32))), .unset, .unset, .unset, .unset, .unset] [(.int w2), (.int ph2), (.int per), (.int m2), (.int l2), (.int 4)])) rfl (by rw [hml]; rfl) (argsL := [(.int 4), (.int l2), (.int m2), (.int per), (.int ph2), (.int w2)]) (rest := []) (lenOf pd_18 rfl) rfl (by show 2 * 0 + _ ≤ _; exact Nat.le_of_eq rfl) (hb hby at_301) (fun _ _ => ⟨rfl, e472, Nat.le_of_ble_eq_true rfl, Nat.le_of_ble_eq_true rfl⟩)
                dsimp only [Pt.U, Pt.locs, Pt.cells, Pt.slots] at X474 l474 y474 z474 st474 hQ474
                rw [l474, y474, z474] at X474
                obtain ⟨rfl, rfl, e474⟩ := hQ474
                have N474 := Fr.app N472 (Fr.nil n0)
                refine OGets.step st474 ?_
                show OGets p e below _ (T474.setTop (mkF m 304 #[.val (.int p0), .val (.int p1), .val (.int p2), .val (.int p3), .val (.int p4), .val (.int p5), .val (.int per), .val (.int l1), .val (.int m1), .val (.int ph1), .val (.int w1), .val (.int l2), .val (.int m2), .val (.int ph2), .val (.int w2), .val (.ref b416), .val (.int (poV (poA Cq438 Bq438 (4 : Int32)) (4 : Int32))), .val (.int (poV (poA Cq439 Bq439 (3 : Int32)) (3 : Int32))), .val (.int (poV (poA Cq440 Bq440 (2 : Int32)) (2 : Int32))), .val (.int (poV (poA Cq441 Bq441 (1 : Int32)) (1 : Int32))), .val (.int (poV (poA Cq442 Bq442 (0 : Int32)) (0 : Int32))), .unset, .unset, .unset, .unset, .unset] [(.int (f_held (4 : Int32) l2 m2 per ph2 w2))]))
                by_cases hc304_475 : (f_held (4 : Int32) l2 m2 per ph2 w2) = (0 : Int32)
                · refine OGets.step (fun _ => XS.ifYes X474.here hx rfl (pc0 := 304) (pc' := 311) rfl (hb hby at_304) rfl ((if0 _ _).trans (teq hc304_475).1) (by decide) (by decide)) ?_
                  show OGets p e below _ (T474.setTop (mkF m 311 #[.val (.int p0), .val (.int p1), .val (.int p2), .val (.int p3), .val (.int p4), .val (.int p5), .val (.int per), .val (.int l1), .val (.int m1), .val (.int ph1), .val (.int w1), .val (.int l2), .val (.int m2), .val (.int ph2), .val (.int w2), .val (.ref b416), .val (.int (poV (poA Cq438 Bq438 (4 : Int32)) (4 : Int32))), .val (.int (poV (poA Cq439 Bq439 (3 : Int32)) (3 : Int32))), .val (.int (poV (poA Cq440 Bq440 (2 : Int32)) (2 : Int32))), .val (.int (poV (poA Cq441 Bq441 (1 : Int32)) (1 : Int32))), .val (.int (poV (poA Cq442 Bq442 (0 : Int32)) (0 : Int32))), .unset, .unset, .unset, .unset, .unset] []))
                  refine OGets.step (fun _ => XS.iconst X474.here hx rfl (hb hby at_311)) ?_
                  show OGets p e below _ (T474.setTop (mkF m 312 #[.val (.int p0), .val (.int p1), .val (.int p2), .val (.int p3), .val (.int p4), .val (.int p5), .val (.int per), .val (.int l1), .val (.int m1), .val (.int ph1), .val (.int w1), .val (.int l2), .val (.int m2), .val (.int ph2), .val (.int w2), .val (.ref b416), .val (.int (poV (poA Cq438 Bq438 (4 : Int32)) (4 : Int32))), .val (.int (poV (poA Cq439 Bq439 (3 : Int32)) (3 : Int32))), .val (.int (poV (poA Cq440 Bq440 (2 : Int32)) (2 : Int32))), .val (.int (poV (poA Cq441 Bq441 (1 : Int32)) (1 : Int32))), .val (.int (poV (poA Cq442 Bq442 (0 : Int32)) (0 : Int32))), .unset, .unset, .unset, .unset, .unset] [(.int 0)]))
                  have ke : (eF (4 : Int32) per l1 m1 ph1 w1 l2 m2 ph2 w2) = (0 : Int32) := (if_pos hc287_473).trans (if_pos hc304_475)
                  have kr := K444 _ _ X474 N474 (by rw [e474]; exact Z443) (by rw [e474]; exact V443v)
                  rw [ke] at kr
                  exact kr
                · refine OGets.step (fun _ => XS.ifNo X474.here hx rfl (hb hby at_304) rfl ((if0 _ _).trans (feq hc304_475).1)) ?_
                  show OGets p e below _ (T474.setTop (mkF m 307 #[.val (.int p0), .val (.int p1), .val (.int p2), .val (.int p3), .val (.int p4), .val (.int p5), .val (.int per), .val (.int l1), .val (.int m1), .val (.int ph1), .val (.int w1), .val (.int l2), .val (.int m2), .val (.int ph2), .val (.int w2), .val (.ref b416), .val (.int (poV (poA Cq438 Bq438 (4 : Int32)) (4 : Int32))), .val (.int (poV (poA Cq439 Bq439 (3 : Int32)) (3 : Int32))), .val (.int (poV (poA Cq440 Bq440 (2 : Int32)) (2 : Int32))), .val (.int (poV (poA Cq441 Bq441 (1 : Int32)) (1 : Int32))), .val (.int (poV (poA Cq442 Bq442 (0 : Int32)) (0 : Int32))), .unset, .unset, .unset, .unset, .unset] []))
                  refine OGets.step (fun _ => XS.iconst X474.here hx rfl (hb hby at_307)) ?_
                  refine OGets.step (fun _ => XS.goto X474.here hx rfl (pc0 := 308) (pc' := 312) rfl (hb hby at_308) (by decide) (by decide)) ?_
                  show OGets p e below _ (T474.setTop (mkF m 312 #[.val (.int p0), .val (.int p1), .val (.int p2), .val (.int p3), .val (.int p4), .val (.int p5), .val (.int per), .val (.int l1), .val (.int m1), .val (.int ph1), .val (.int w1), .val (.int l2), .val (.int m2), .val (.int ph2), .val (.int w2), .val (.ref b416), .val (.int (poV (poA Cq438 Bq438 (4 : Int32)) (4 : Int32))), .val (.int (poV (poA Cq439 Bq439 (3 : Int32)) (3 : Int32))), .val (.int (poV (poA Cq440 Bq440 (2 : Int32)) (2 : Int32))), .val (.int (poV (poA Cq441 Bq441 (1 : Int32)) (1 : Int32))), .val (.int (poV (poA Cq442 Bq442 (0 : Int32)) (0 : Int32))), .unset, .unset, .unset, .unset, .unset] [(.int 1)]))
                  have ke : (eF (4 : Int32) per l1 m1 ph1 w1 l2 m2 ph2 w2) = (1 : Int32) := (if_pos hc287_473).trans (if_neg hc304_475)
                  have kr := K444 _ _ X474 N474 (by rw [e474]; exact Z443) (by rw [e474]; exact V443v)
                  rw [ke] at kr
                  exact kr
              · refine OGets.step (fun _ => XS.ifYes X472.here hx rfl (pc0 := 287) (pc' := 307) rfl (hb hby at_287) rfl ((if0 _ _).trans (feq hc287_473).2) (by decide) (by decide)) ?_
                show OGets p e below _ (T472.setTop (mkF m 307 #[.val (.int p0), .val (.int p1), .val (.int p2), .val (.int p3), .val (.int p4), .val (.int p5), .val (.int per), .val (.int l1), .val (.int m1), .val (.int ph1), .val (.int w1), .val (.int l2), .val (.int m2), .val (.int ph2), .val (.int w2), .val (.ref b416), .val (.int (poV (poA Cq438 Bq438 (4 : Int32)) (4 : Int32))), .val (.int (poV (poA Cq439 Bq439 (3 : Int32)) (3 : Int32))), .val (.int (poV (poA Cq440 Bq440 (2 : Int32)) (2 : Int32))), .val (.int (poV (poA Cq441 Bq441 (1 : Int32)) (1 : Int32))), .val (.int (poV (poA Cq442 Bq442 (0 : Int32)) (0 : Int32))), .unset, .unset, .unset, .unset, .unset] []))
                refine OGets.step (fun _ => XS.iconst X472.here hx rfl (hb hby at_307)) ?_
                refine OGets.step (fun _ => XS.goto X472.here hx rfl (pc0 := 308) (pc' := 312) rfl (hb hby at_308) (by decide) (by decide)) ?_
                show OGets p e below _ (T472.setTop (mkF m 312 #[.val (.int p0), .val (.int p1), .val (.int p2), .val (.int p3), .val (.int p4), .val (.int p5), .val (.int per), .val (.int l1), .val (.int m1), .val (.int ph1), .val (.int w1), .val (.int l2), .val (.int m2), .val (.int ph2), .val (.int w2), .val (.ref b416), .val (.int (poV (poA Cq438 Bq438 (4 : Int32)) (4 : Int32))), .val (.int (poV (poA Cq439 Bq439 (3 : Int32)) (3 : Int32))), .val (.int (poV (poA Cq440 Bq440 (2 : Int32)) (2 : Int32))), .val (.int (poV (poA Cq441 Bq441 (1 : Int32)) (1 : Int32))), .val (.int (poV (poA Cq442 Bq442 (0 : Int32)) (0 : Int32))), .unset, .unset, .unset, .unset, .unset] [(.int 1)]))
                have ke : (eF (4 : Int32) per l1 m1 ph1 w1 l2 m2 ph2 w2) = (1 : Int32) := if_neg hc287_473
                have kr := K444 _ _ X472 N472 (by rw [e472]; exact Z443) (by rw [e472]; exact V443v)
                rw [ke] at kr
                exact kr
            refine OGets.step (fun _ => XS.iload X429.here hx rfl (hb hby at_178) rfl) ?_
            refine OGets.step (fun _ => XS.bipush X429.here hx rfl (hb hby at_180)) ?_
            refine OGets.step (fun _ => XS.iand X429.here hx rfl (hb hby at_182) rfl) ?_
            by_cases hc183_476 : (p5 &&& (16 : Int32)) = (0 : Int32)
            · refine OGets.step (fun _ => XS.ifYes X429.here hx rfl (pc0 := 183) (pc' := 190) rfl (hb hby at_183) rfl ((if0 _ _).trans (teq hc183_476).1) (by decide) (by decide)) ?_
              show OGets p e below _ (T429.setTop (mkF m 190 #[.val (.int p0), .val (.int p1), .val (.int p2), .val (.int p3), .val (.int p4), .val (.int p5), .val (.int per), .val (.int l1), .val (.int m1), .val (.int ph1), .val (.int w1), .val (.int l2), .val (.int m2), .val (.int ph2), .val (.int w2), .val (.ref b416), .unset, .unset, .unset, .unset, .unset, .unset, .unset, .unset, .unset, .unset] [(.ref b416)]))
              refine OGets.step (fun _ => XS.iconst X429.here hx rfl (hb hby at_190)) ?_
              show OGets p e below _ (T429.setTop (mkF m 191 #[.val (.int p0), .val (.int p1), .val (.int p2), .val (.int p3), .val (.int p4), .val (.int p5), .val (.int per), .val (.int l1), .val (.int m1), .val (.int ph1), .val (.int w1), .val (.int l2), .val (.int m2), .val (.int ph2), .val (.int w2), .val (.ref b416), .unset, .unset, .unset, .unset, .unset, .unset, .unset, .unset, .unset, .unset] [(.int 0), (.ref b416)]))
              exact K431 _ _ (0 : Int32) X429 N429 Z429 V429v
            · refine OGets.step (fun _ => XS.ifNo X429.here hx rfl (hb hby at_183) rfl ((if0 _ _).trans (feq hc183_476).1)) ?_
              show OGets p e below _ (T429.setTop (mkF m 186 #[.val (.int p0), .val (.int p1), .val (.int p2), .val (.int p3), .val (.int p4), .val (.int p5), .val (.int per), .val (.int l1), .val (.int m1), .val (.int ph1), .val (.int w1), .val (.int l2), .val (.int m2), .val (.int ph2), .val (.int w2), .val (.ref b416), .unset, .unset, .unset, .unset, .unset, .unset, .unset, .unset, .unset, .unset] [(.ref b416)]))
              refine OGets.step (fun _ => XS.iconst X429.here hx rfl (hb hby at_186)) ?_
              refine OGets.step (fun _ => XS.goto X429.here hx rfl (pc0 := 187) (pc' := 191) rfl (hb hby at_187) (by decide) (by decide)) ?_
              show OGets p e below _ (T429.setTop (mkF m 191 #[.val (.int p0), .val (.int p1), .val (.int p2), .val (.int p3), .val (.int p4), .val (.int p5), .val (.int per), .val (.int l1), .val (.int m1), .val (.int ph1), .val (.int w1), .val (.int l2), .val (.int m2), .val (.int ph2), .val (.int w2), .val (.ref b416), .unset, .unset, .unset, .unset, .unset, .unset, .unset, .unset, .unset, .unset] [(.int 1), (.ref b416)]))
              exact K431 _ _ (1 : Int32) X429 N429 Z429 V429v
          refine OGets.step (fun _ => XS.iload X426.here hx rfl (hb hby at_160) rfl) ?_
          refine OGets.step (fun _ => XS.bipush X426.here hx rfl (hb hby at_162)) ?_
          refine OGets.step (fun _ => XS.iand X426.here hx rfl (hb hby at_164) rfl) ?_
          by_cases hc165_477 : (p5 &&& (8 : Int32)) = (0 : Int32)
          · refine OGets.step (fun _ => XS.ifYes X426.here hx rfl (pc0 := 165) (pc' := 172) rfl (hb hby at_165) rfl ((if0 _ _).trans (teq hc165_477).1) (by decide) (by decide)) ?_
            show OGets p e below _ (T426.setTop (mkF m 172 #[.val (.int p0), .val (.int p1), .val (.int p2), .val (.int p3), .val (.int p4), .val (.int p5), .val (.int per), .val (.int l1), .val (.int m1), .val (.int ph1), .val (.int w1), .val (.int l2), .val (.int m2), .val (.int ph2), .val (.int w2), .val (.ref b416), .unset, .unset, .unset, .unset, .unset, .unset, .unset, .unset, .unset, .unset] [(.ref b416)]))
            refine OGets.step (fun _ => XS.iconst X426.here hx rfl (hb hby at_172)) ?_
            show OGets p e below _ (T426.setTop (mkF m 173 #[.val (.int p0), .val (.int p1), .val (.int p2), .val (.int p3), .val (.int p4), .val (.int p5), .val (.int per), .val (.int l1), .val (.int m1), .val (.int ph1), .val (.int w1), .val (.int l2), .val (.int m2), .val (.int ph2), .val (.int w2), .val (.ref b416), .unset, .unset, .unset, .unset, .unset, .unset, .unset, .unset, .unset, .unset] [(.int 0), (.ref b416)]))
            exact K428 _ _ (0 : Int32) X426 N426 Z426 V426v
          · refine OGets.step (fun _ => XS.ifNo X426.here hx rfl (hb hby at_165) rfl ((if0 _ _).trans (feq hc165_477).1)) ?_
            show OGets p e below _ (T426.setTop (mkF m 168 #[.val (.int p0), .val (.int p1), .val (.int p2), .val (.int p3), .val (.int p4), .val (.int p5), .val (.int per), .val (.int l1), .val (.int m1), .val (.int ph1), .val (.int w1), .val (.int l2), .val (.int m2), .val (.int ph2), .val (.int w2), .val (.ref b416), .unset, .unset, .unset, .unset, .unset, .unset, .unset, .unset, .unset, .unset] [(.ref b416)]))
            refine OGets.step (fun _ => XS.iconst X426.here hx rfl (hb hby at_168)) ?_
            refine OGets.step (fun _ => XS.goto X426.here hx rfl (pc0 := 169) (pc' := 173) rfl (hb hby at_169) (by decide) (by decide)) ?_
            show OGets p e below _ (T426.setTop (mkF m 173 #[.val (.int p0), .val (.int p1), .val (.int p2), .val (.int p3), .val (.int p4), .val (.int p5), .val (.int per), .val (.int l1), .val (.int m1), .val (.int ph1), .val (.int w1), .val (.int l2), .val (.int m2), .val (.int ph2), .val (.int w2), .val (.ref b416), .unset, .unset, .unset, .unset, .unset, .unset, .unset, .unset, .unset, .unset] [(.int 1), (.ref b416)]))
            exact K428 _ _ (1 : Int32) X426 N426 Z426 V426v
        refine OGets.step (fun _ => XS.iload X423.here hx rfl (hb hby at_143) rfl) ?_
        refine OGets.step (fun _ => XS.iconst X423.here hx rfl (hb hby at_145)) ?_
        refine OGets.step (fun _ => XS.iand X423.here hx rfl (hb hby at_146) rfl) ?_
        by_cases hc147_478 : (p5 &&& (4 : Int32)) = (0 : Int32)
        · refine OGets.step (fun _ => XS.ifYes X423.here hx rfl (pc0 := 147) (pc' := 154) rfl (hb hby at_147) rfl ((if0 _ _).trans (teq hc147_478).1) (by decide) (by decide)) ?_
          show OGets p e below _ (T423.setTop (mkF m 154 #[.val (.int p0), .val (.int p1), .val (.int p2), .val (.int p3), .val (.int p4), .val (.int p5), .val (.int per), .val (.int l1), .val (.int m1), .val (.int ph1), .val (.int w1), .val (.int l2), .val (.int m2), .val (.int ph2), .val (.int w2), .val (.ref b416), .unset, .unset, .unset, .unset, .unset, .unset, .unset, .unset, .unset, .unset] [(.ref b416)]))
          refine OGets.step (fun _ => XS.iconst X423.here hx rfl (hb hby at_154)) ?_
          show OGets p e below _ (T423.setTop (mkF m 155 #[.val (.int p0), .val (.int p1), .val (.int p2), .val (.int p3), .val (.int p4), .val (.int p5), .val (.int per), .val (.int l1), .val (.int m1), .val (.int ph1), .val (.int w1), .val (.int l2), .val (.int m2), .val (.int ph2), .val (.int w2), .val (.ref b416), .unset, .unset, .unset, .unset, .unset, .unset, .unset, .unset, .unset, .unset] [(.int 0), (.ref b416)]))
          exact K425 _ _ (0 : Int32) X423 N423 Z423 V423v
        · refine OGets.step (fun _ => XS.ifNo X423.here hx rfl (hb hby at_147) rfl ((if0 _ _).trans (feq hc147_478).1)) ?_
          show OGets p e below _ (T423.setTop (mkF m 150 #[.val (.int p0), .val (.int p1), .val (.int p2), .val (.int p3), .val (.int p4), .val (.int p5), .val (.int per), .val (.int l1), .val (.int m1), .val (.int ph1), .val (.int w1), .val (.int l2), .val (.int m2), .val (.int ph2), .val (.int w2), .val (.ref b416), .unset, .unset, .unset, .unset, .unset, .unset, .unset, .unset, .unset, .unset] [(.ref b416)]))
          refine OGets.step (fun _ => XS.iconst X423.here hx rfl (hb hby at_150)) ?_
          refine OGets.step (fun _ => XS.goto X423.here hx rfl (pc0 := 151) (pc' := 155) rfl (hb hby at_151) (by decide) (by decide)) ?_
          show OGets p e below _ (T423.setTop (mkF m 155 #[.val (.int p0), .val (.int p1), .val (.int p2), .val (.int p3), .val (.int p4), .val (.int p5), .val (.int per), .val (.int l1), .val (.int m1), .val (.int ph1), .val (.int w1), .val (.int l2), .val (.int m2), .val (.int ph2), .val (.int w2), .val (.ref b416), .unset, .unset, .unset, .unset, .unset, .unset, .unset, .unset, .unset, .unset] [(.int 1), (.ref b416)]))
          exact K425 _ _ (1 : Int32) X423 N423 Z423 V423v
      refine OGets.step (fun _ => XS.iload X420.here hx rfl (hb hby at_126) rfl) ?_
      refine OGets.step (fun _ => XS.iconst X420.here hx rfl (hb hby at_128)) ?_
      refine OGets.step (fun _ => XS.iand X420.here hx rfl (hb hby at_129) rfl) ?_
      by_cases hc130_479 : (p5 &&& (2 : Int32)) = (0 : Int32)
      · refine OGets.step (fun _ => XS.ifYes X420.here hx rfl (pc0 := 130) (pc' := 137) rfl (hb hby at_130) rfl ((if0 _ _).trans (teq hc130_479).1) (by decide) (by decide)) ?_
        show OGets p e below _ (T420.setTop (mkF m 137 #[.val (.int p0), .val (.int p1), .val (.int p2), .val (.int p3), .val (.int p4), .val (.int p5), .val (.int per), .val (.int l1), .val (.int m1), .val (.int ph1), .val (.int w1), .val (.int l2), .val (.int m2), .val (.int ph2), .val (.int w2), .val (.ref b416), .unset, .unset, .unset, .unset, .unset, .unset, .unset, .unset, .unset, .unset] [(.ref b416)]))
        refine OGets.step (fun _ => XS.iconst X420.here hx rfl (hb hby at_137)) ?_
        show OGets p e below _ (T420.setTop (mkF m 138 #[.val (.int p0), .val (.int p1), .val (.int p2), .val (.int p3), .val (.int p4), .val (.int p5), .val (.int per), .val (.int l1), .val (.int m1), .val (.int ph1), .val (.int w1), .val (.int l2), .val (.int m2), .val (.int ph2), .val (.int w2), .val (.ref b416), .unset, .unset, .unset, .unset, .unset, .unset, .unset, .unset, .unset, .unset] [(.int 0), (.ref b416)]))
        exact K422 _ _ (0 : Int32) X420 N420 Z420 V420v
      · refine OGets.step (fun _ => XS.ifNo X420.here hx rfl (hb hby at_130) rfl ((if0 _ _).trans (feq hc130_479).1)) ?_
        show OGets p e below _ (T420.setTop (mkF m 133 #[.val (.int p0), .val (.int p1), .val (.int p2), .val (.int p3), .val (.int p4), .val (.int p5), .val (.int per), .val (.int l1), .val (.int m1), .val (.int ph1), .val (.int w1), .val (.int l2), .val (.int m2), .val (.int ph2), .val (.int w2), .val (.ref b416), .unset, .unset, .unset, .unset, .unset, .unset, .unset, .unset, .unset, .unset] [(.ref b416)]))
        refine OGets.step (fun _ => XS.iconst X420.here hx rfl (hb hby at_133)) ?_
        refine OGets.step (fun _ => XS.goto X420.here hx rfl (pc0 := 134) (pc' := 138) rfl (hb hby at_134) (by decide) (by decide)) ?_
        show OGets p e below _ (T420.setTop (mkF m 138 #[.val (.int p0), .val (.int p1), .val (.int p2), .val (.int p3), .val (.int p4), .val (.int p5), .val (.int per), .val (.int l1), .val (.int m1), .val (.int ph1), .val (.int w1), .val (.int l2), .val (.int m2), .val (.int ph2), .val (.int w2), .val (.ref b416), .unset, .unset, .unset, .unset, .unset, .unset, .unset, .unset, .unset, .unset] [(.int 1), (.ref b416)]))
        exact K422 _ _ (1 : Int32) X420 N420 Z420 V420v
    show OGets p e below _ (T417.setTop (mkF m 109 #[.val (.int p0), .val (.int p1), .val (.int p2), .val (.int p3), .val (.int p4), .val (.int p5), .val (.int per), .val (.int l1), .val (.int m1), .val (.int ph1), .val (.int w1), .val (.int l2), .val (.int m2), .val (.int ph2), .val (.int w2), .val (.ref b416), .unset, .unset, .unset, .unset, .unset, .unset, .unset, .unset, .unset, .unset] [(.ref b416)]))
    refine OGets.step (fun _ => XS.iload X417.here hx rfl (hb hby at_109) rfl) ?_
    refine OGets.step (fun _ => XS.iconst X417.here hx rfl (hb hby at_111)) ?_
    refine OGets.step (fun _ => XS.iand X417.here hx rfl (hb hby at_112) rfl) ?_
    by_cases hc113_480 : (p5 &&& (1 : Int32)) = (0 : Int32)
    · refine OGets.step (fun _ => XS.ifYes X417.here hx rfl (pc0 := 113) (pc' := 120) rfl (hb hby at_113) rfl ((if0 _ _).trans (teq hc113_480).1) (by decide) (by decide)) ?_
      show OGets p e below _ (T417.setTop (mkF m 120 #[.val (.int p0), .val (.int p1), .val (.int p2), .val (.int p3), .val (.int p4), .val (.int p5), .val (.int per), .val (.int l1), .val (.int m1), .val (.int ph1), .val (.int w1), .val (.int l2), .val (.int m2), .val (.int ph2), .val (.int w2), .val (.ref b416), .unset, .unset, .unset, .unset, .unset, .unset, .unset, .unset, .unset, .unset] [(.ref b416)]))
      refine OGets.step (fun _ => XS.iconst X417.here hx rfl (hb hby at_120)) ?_
      show OGets p e below _ (T417.setTop (mkF m 121 #[.val (.int p0), .val (.int p1), .val (.int p2), .val (.int p3), .val (.int p4), .val (.int p5), .val (.int per), .val (.int l1), .val (.int m1), .val (.int ph1), .val (.int w1), .val (.int l2), .val (.int m2), .val (.int ph2), .val (.int w2), .val (.ref b416), .unset, .unset, .unset, .unset, .unset, .unset, .unset, .unset, .unset, .unset] [(.int 0), (.ref b416)]))
      exact K419 _ _ (0 : Int32) X417 N417 Z417 V417v
    · refine OGets.step (fun _ => XS.ifNo X417.here hx rfl (hb hby at_113) rfl ((if0 _ _).trans (feq hc113_480).1)) ?_
      show OGets p e below _ (T417.setTop (mkF m 116 #[.val (.int p0), .val (.int p1), .val (.int p2), .val (.int p3), .val (.int p4), .val (.int p5), .val (.int per), .val (.int l1), .val (.int m1), .val (.int ph1), .val (.int w1), .val (.int l2), .val (.int m2), .val (.int ph2), .val (.int w2), .val (.ref b416), .unset, .unset, .unset, .unset, .unset, .unset, .unset, .unset, .unset, .unset] [(.ref b416)]))
      refine OGets.step (fun _ => XS.iconst X417.here hx rfl (hb hby at_116)) ?_
      refine OGets.step (fun _ => XS.goto X417.here hx rfl (pc0 := 117) (pc' := 121) rfl (hb hby at_117) (by decide) (by decide)) ?_
      show OGets p e below _ (T417.setTop (mkF m 121 #[.val (.int p0), .val (.int p1), .val (.int p2), .val (.int p3), .val (.int p4), .val (.int p5), .val (.int per), .val (.int l1), .val (.int m1), .val (.int ph1), .val (.int w1), .val (.int l2), .val (.int m2), .val (.int ph2), .val (.int w2), .val (.ref b416), .unset, .unset, .unset, .unset, .unset, .unset, .unset, .unset, .unset, .unset] [(.int 1), (.ref b416)]))
      exact K419 _ _ (1 : Int32) X417 N417 Z417 V417v
  · have hN := hB
    show OGets p e below _ (s₁.setTop (mkF m 95 #[.val (.int p0), .val (.int p1), .val (.int p2), .val (.int p3), .val (.int p4), .val (.int p5), .val (.int per), .val (.int l1), .val (.int m1), .val (.int ph1), .val (.int w1), .val (.int l2), .val (.int m2), .val (.int ph2), .val (.int w2), .unset, .unset, .unset, .unset, .unset, .unset, .unset, .unset, .unset, .unset, .unset] []))
    obtain ⟨T481, h481, X481, e481, E481, A481, D481, -, st481⟩ := newO X0 hx hZ hown (hw _ (List.mem_of_getElem? (i := 2) rfl)) (hw _ (List.mem_of_getElem? (i := 3) rfl)) (hw _ (List.mem_of_getElem? (i := 4) rfl)) e0 (g := (mkF m 95 #[.val (.int p0), .val (.int p1), .val (.int p2), .val (.int p3), .val (.int p4), .val (.int p5), .val (.int per), .val (.int l1), .val (.int m1), .val (.int ph1), .val (.int w1), .val (.int l2), .val (.int m2), .val (.int ph2), .val (.int w2), .unset, .unset, .unset, .unset, .unset, .unset, .unset, .unset, .unset, .unset, .unset] [])) rfl (hb hby at_95) (by decide) (by decide)
    have V481' := V0.newObj (ns := ns_StackCounts) (vs := [(.int 0), .null, .null, .null, .null, (.int 0)]) Z0 E481 A481 D481 (lay_ns_StackCounts hw) (by decide) (by decide)
    have Z481 : n0 ≤ h481.size := Nat.le_trans Z0 E481.1
    obtain ⟨b481, g481⟩ : ∃ z, z = h0.size := ⟨_, rfl⟩
    rw [← g481] at V481' st481
    have V481 : OView Z n0 h481 (oC b481 [(.int 0), .null, .null, .null, .null, (.int 0)] :: []) := V481'
    refine OGets.step st481 ?_
    refine OGets.step (fun _ => XS.dup X481.here hx rfl (hb hby at_98) rfl rfl) ?_
    refine OGets.step (fun _ => XS.iconst X481.here hx rfl (hb hby at_99)) ?_
    refine OGets.step (fun _ => XS.iload X481.here hx rfl (hb hby at_100) rfl) ?_
    obtain ⟨_, _, ⟨T482, L482, k482, n482⟩, -, X482, ⟨Lc482, hQ482, l482, y482, z482⟩, st482⟩ := X481.specialBack hx (y := (⟨"com/example/pelt/pelt/StackCounts", "<init>", "(II)V"⟩ : MethodName)) rfl hown (mvT hZ (hw _ (List.mem_of_getElem? (i := 5) rfl))) (mvT hZ (hw _ (List.mem_of_getElem? (i := 6) rfl))) (mvT hZ (hw _ (List.mem_of_getElem? (i := 7) rfl))) (by decide) (backOf (W := 1) (rm_initN l Z a0 hw [] b481 per h481 n0 ([]) Z481 hN V481) hZ (hw _ (List.mem_of_getElem? (i := 7) rfl)) (hw _ (List.mem_of_getElem? (i := 4) rfl)) (by decide) (by decide)) (g := (mkF m 102 #[.val (.int p0), .val (.int p1), .val (.int p2), .val (.int p3), .val (.int p4), .val (.int p5), .val (.int per), .val (.int l1), .val (.int m1), .val (.int ph1), .val (.int w1), .val (.int l2), .val (.int m2), .val (.int ph2), .val (.int w2), .unset, .unset, .unset, .unset, .unset, .unset, .unset, .unset, .unset, .unset, .unset] [(.int per), (.int 5), (.ref b481), (.ref b481)])) rfl (by rw [hml]; rfl) (Steps.refl _) (a := b481) (argsL := [(.int 5), (.int per)]) (rest := [(.ref b481)]) (lenOf pd_13 rfl) rfl (by show 2 * 0 + _ ≤ _; exact Nat.le_of_eq rfl) (hb hby at_102) (fun _ _ => ⟨rfl, e481, Nat.le_of_ble_eq_true rfl, Nat.le_of_ble_eq_true rfl⟩)
    dsimp only [Pt.U, Pt.locs, Pt.cells, Pt.slots] at X482 l482 y482 z482 st482 hQ482
    rw [l482, y482, z482] at X482
    obtain ⟨rfl, N482q, au482, ac482, V482⟩ := hQ482
    have N482 := Fr.app N0 N482q
    have V482v : OView Z n0 T482.heap (oA ac482 (List.replicate 5 (0 : Int32)) :: oA au482 (List.replicate 5 (0 : Int32)) :: oC b481 [(.int per), (.ref au482), (.ref ac482), .null, .null, (.int 0)] :: []) := V482
    have Z482 : n0 ≤ T482.heap.size := V482v.big 0 rfl
    refine OGets.after st482 ?_
    refine OGets.step (fun _ => XS.astore X482.here hx rfl (hb hby at_105) rfl rfl (l' := #[.val (.int p0), .val (.int p1), .val (.int p2), .val (.int p3), .val (.int p4), .val (.int p5), .val (.int per), .val (.int l1), .val (.int m1), .val (.int ph1), .val (.int w1), .val (.int l2), .val (.int m2), .val (.int ph2), .val (.int w2), .val (.ref b481), .unset, .unset, .unset, .unset, .unset, .unset, .unset, .unset, .unset, .unset]) rfl) ?_
    refine OGets.step (fun _ => XS.aload X482.here hx rfl (hb hby at_107) rfl rfl) ?_
    have K484 : ∀ (T484 : State) (lj484 : List Loc) (t483 : Int32), Stand p l e room_1 s m #[(.int p0), (.int p1), (.int p2), (.int p3), (.int p4), (.int p5)] below meth c T484 lj484 3 16 → Fr n0 lj484 → n0 ≤ T484.heap.size → OView Z n0 T484.heap (oA ac482 (List.replicate 5 (0 : Int32)) :: oA au482 (List.replicate 5 (0 : Int32)) :: oC b481 [(.int per), (.ref au482), (.ref ac482), .null, .null, (.int 0)] :: []) → OGets p e below (OLeaves s (Q_law Z p0 p1 p2 p3 p4 p5 h0 n0 ) 32 192) (T484.setTop (mkF m 121 #[.val (.int p0), .val (.int p1), .val (.int p2), .val (.int p3), .val (.int p4), .val (.int p5), .val (.int per), .val (.int l1), .val (.int m1), .val (.int ph1), .val (.int w1), .val (.int l2), .val (.int m2), .val (.int ph2), .val (.int w2), .val (.ref b481), .unset, .unset, .unset, .unset, .unset, .unset, .unset, .unset, .unset, .unset] [(.int t483), (.ref b481)])) := by
      intro T484 lj484 t483 X484 N484 Z484 V484
      show OGets p e below _ (T484.setTop (mkF m 121 #[.val (.int p0), .val (.int p1), .val (.int p2), .val (.int p3), .val (.int p4), .val (.int p5), .val (.int per), .val (.int l1), .val (.int m1), .val (.int ph1), .val (.int w1), .val (.int l2), .val (.int m2), .val (.int ph2), .val (.int w2), .val (.ref b481), .unset, .unset, .unset, .unset, .unset, .unset, .unset, .unset, .unset, .unset] [(.int t483), (.ref b481)]))
      have V485_ : OView Z _ T484.heap (oC b481 [(.int per), (.ref au482), (.ref ac482), .null, .null, (.int 0)] :: oA au482 (List.replicate 5 (0 : Int32)) :: oA ac482 (List.replicate 5 (0 : Int32)) :: []) := ((V484.bring 1 rfl).bring 2 rfl)
      obtain ⟨cq485, kq485, q485a, q485b, q485c⟩ := isOf hZ rfl (V485_.exa 0 rfl)
      obtain ⟨_, _, ⟨T485, L485, k485, n485⟩, -, X485, ⟨Lc485, hQ485, l485, y485, z485⟩, st485⟩ := X484.virtualBack hx (y := (⟨"com/example/pelt/pelt/StackCounts", "push", "(Z)V"⟩ : MethodName)) (z := (⟨"com/example/pelt/pelt/StackCounts", "push", "(Z)V"⟩ : MethodName)) hown (mvT hZ (hw _ (List.mem_of_getElem? (i := 22) rfl))) (mvT hZ (hw _ (List.mem_of_getElem? (i := 23) rfl))) (notFace_of_selects (args := #[]) (mvT hZ (hw _ (List.mem_of_getElem? (i := 25) rfl)))) (mvT hZ (hw _ (List.mem_of_getElem? (i := 25) rfl))) (mvT hZ (hw _ (List.mem_of_getElem? (i := 24) rfl))) (by decide) (backOf (W := 0) (rm_pushN l Z a0 hw [] b481 au482 ac482 per (0 : Int32) t483 (List.replicate 5 (0 : Int32)) (List.replicate 5 (0 : Int32)) T484.heap n0 ([]) Z484 (by simp only [List.length_replicate]) (by simp only [List.length_replicate]) (by decide) (by decide) V485_) hZ (hw _ (List.mem_of_getElem? (i := 26) rfl)) (hw _ (List.mem_of_getElem? (i := 4) rfl)) (by decide) (by decide)) q485a q485c (g := (mkF m 121 #[.val (.int p0), .val (.int p1), .val (.int p2), .val (.int p3), .val (.int p4), .val (.int p5), .val (.int per), .val (.int l1), .val (.int m1), .val (.int ph1), .val (.int w1), .val (.int l2), .val (.int m2), .val (.int ph2), .val (.int w2), .val (.ref b481), .unset, .unset, .unset, .unset, .unset, .unset, .unset, .unset, .unset, .unset] [(.int t483), (.ref b481)])) rfl (by rw [hml]; rfl) (Steps.refl _) (argsL := [(.int t483)]) (rest := []) (lenOf pd_14 rfl) rfl (by show 2 * 0 + _ ≤ _; exact Nat.le_of_eq rfl) (hb hby at_121) (fun _ _ => ⟨rfl, rfl, Nat.le_of_ble_eq_true rfl, Nat.le_of_ble_eq_true rfl⟩)
      dsimp only [Pt.U, Pt.locs, Pt.cells, Pt.slots] at X485 l485 y485 z485 st485 hQ485
      rw [l485, y485, z485] at X485
      obtain ⟨rfl, N485q, V485⟩ := hQ485
      have N485 := Fr.app N484 N485q
      have V485v : OView Z n0 T485.heap (oC b481 [(.int per), (.ref au482), (.ref ac482), .null, .null, (.int 1)] :: oA au482 (puU (List.replicate 5 (0 : Int32)) (0 : Int32) t483) :: oA ac482 (si (List.replicate 5 (0 : Int32)) (0 : Int32) (0 : Int32)) :: []) := V485
      obtain ⟨Uq485, hUq485⟩ : ∃ z, z = (puU (List.replicate 5 (0 : Int32)) (0 : Int32) t483) := ⟨_, rfl⟩
      rw [← hUq485] at V485v
      have lUq485 : Uq485.length = 5 := by rw [hUq485]; simp only [puU_len, List.length_replicate]
      clear hUq485
      rw [show (si (List.replicate 5 (0 : Int32)) (0 : Int32) (0 : Int32)) = (List.replicate 5 (0 : Int32)) from by decide] at V485v
      have Z485 : n0 ≤ T485.heap.size := V485v.big 0 rfl
      refine OGets.after st485 ?_
      refine OGets.step (fun _ => XS.aload X485.here hx rfl (hb hby at_124) rfl rfl) ?_
      have K487 : ∀ (T487 : State) (lj487 : List Loc) (t486 : Int32), Stand p l e room_1 s m #[(.int p0), (.int p1), (.int p2), (.int p3), (.int p4), (.int p5)] below meth c T487 lj487 3 16 → Fr n0 lj487 → n0 ≤ T487.heap.size → OView Z n0 T487.heap (oC b481 [(.int per), (.ref au482), (.ref ac482), .null, .null, (.int 1)] :: oA au482 Uq485 :: oA ac482 (List.replicate 5 (0 : Int32)) :: []) → OGets p e below (OLeaves s (Q_law Z p0 p1 p2 p3 p4 p5 h0 n0 ) 32 192) (T487.setTop (mkF m 138 #[.val (.int p0), .val (.int p1), .val (.int p2), .val (.int p3), .val (.int p4), .val (.int p5), .val (.int per), .val (.int l1), .val (.int m1), .val (.int ph1), .val (.int w1), .val (.int l2), .val (.int m2), .val (.int ph2), .val (.int w2), .val (.ref b481), .unset, .unset, .unset, .unset, .unset, .unset, .unset, .unset, .unset, .unset] [(.int t486), (.ref b481)])) := by
        intro T487 lj487 t486 X487 N487 Z487 V487
        show OGets p e below _ (T487.setTop (mkF m 138 #[.val (.int p0), .val (.int p1), .val (.int p2), .val (.int p3), .val (.int p4), .val (.int p5), .val (.int per), .val (.int l1), .val (.int m1), .val (.int ph1), .val (.int w1), .val (.int l2), .val (.int m2), .val (.int ph2), .val (.int w2), .val (.ref b481), .unset, .unset, .unset, .unset, .unset, .unset, .unset, .unset, .unset, .unset] [(.int t486), (.ref b481)]))
        obtain ⟨cq488, kq488, q488a, q488b, q488c⟩ := isOf hZ rfl (V487.exa 0 rfl)
        obtain ⟨_, _, ⟨T488, L488, k488, n488⟩, -, X488, ⟨Lc488, hQ488, l488, y488, z488⟩, st488⟩ := X487.virtualBack hx (y := (⟨"com/example/pelt/pelt/StackCounts", "push", "(Z)V"⟩ : MethodName)) (z := (⟨"com/example/pelt/pelt/StackCounts", "push", "(Z)V"⟩ : MethodName)) hown (mvT hZ (hw _ (List.mem_of_getElem? (i := 22) rfl))) (mvT hZ (hw _ (List.mem_of_getElem? (i := 23) rfl))) (notFace_of_selects (args := #[]) (mvT hZ (hw _ (List.mem_of_getElem? (i := 25) rfl)))) (mvT hZ (hw _ (List.mem_of_getElem? (i := 25) rfl))) (mvT hZ (hw _ (List.mem_of_getElem? (i := 24) rfl))) (by decide) (backOf (W := 0) (rm_pushN l Z a0 hw [] b481 au482 ac482 per (1 : Int32) t486 Uq485 (List.replicate 5 (0 : Int32)) T487.heap n0 ([]) Z487 (by simp only [List.length_replicate, lUq485]) (by simp only [List.length_replicate]) (by decide) (by decide) V487) hZ (hw _ (List.mem_of_getElem? (i := 26) rfl)) (hw _ (List.mem_of_getElem? (i := 4) rfl)) (by decide) (by decide)) q488a q488c (g := (mkF m 138 #[.val (.int p0), .val (.int p1), .val (.int p2), .val (.int p3), .val (.int p4), .val (.int p5), .val (.int per), .val (.int l1), .val (.int m1), .val (.int ph1), .val (.int w1), .val (.int l2), .val (.int m2), .val (.int ph2), .val (.int w2), .val (.ref b481), .unset, .unset, .unset, .unset, .unset, .unset, .unset, .unset, .unset, .unset] [(.int t486), (.ref b481)])) rfl (by rw [hml]; rfl) (Steps.refl _) (argsL := [(.int t486)]) (rest := []) (lenOf pd_14 rfl) rfl (by show 2 * 0 + _ ≤ _; exact Nat.le_of_eq rfl) (hb hby at_138) (fun _ _ => ⟨rfl, rfl, Nat.le_of_ble_eq_true rfl, Nat.le_of_ble_eq_true rfl⟩)
        dsimp only [Pt.U, Pt.locs, Pt.cells, Pt.slots] at X488 l488 y488 z488 st488 hQ488
        rw [l488, y488, z488] at X488
        obtain ⟨rfl, N488q, V488⟩ := hQ488
        have N488 := Fr.app N487 N488q
        have V488v : OView Z n0 T488.heap (oC b481 [(.int per), (.ref au482), (.ref ac482), .null, .null, (.int 2)] :: oA au482 (puU Uq485 (1 : Int32) t486) :: oA ac482 (si (List.replicate 5 (0 : Int32)) (1 : Int32) (0 : Int32)) :: []) := V488
        obtain ⟨Uq488, hUq488⟩ : ∃ z, z = (puU Uq485 (1 : Int32) t486) := ⟨_, rfl⟩
        rw [← hUq488] at V488v
        have lUq488 : Uq488.length = 5 := by rw [hUq488]; simp only [puU_len, List.length_replicate, lUq485]
        clear hUq488
        rw [show (si (List.replicate 5 (0 : Int32)) (1 : Int32) (0 : Int32)) = (List.replicate 5 (0 : Int32)) from by decide] at V488v
        have Z488 : n0 ≤ T488.heap.size := V488v.big 0 rfl
        refine OGets.after st488 ?_
        refine OGets.step (fun _ => XS.aload X488.here hx rfl (hb hby at_141) rfl rfl) ?_
        have K490 : ∀ (T490 : State) (lj490 : List Loc) (t489 : Int32), Stand p l e room_1 s m #[(.int p0), (.int p1), (.int p2), (.int p3), (.int p4), (.int p5)] below meth c T490 lj490 3 16 → Fr n0 lj490 → n0 ≤ T490.heap.size → OView Z n0 T490.heap (oC b481 [(.int per), (.ref au482), (.ref ac482), .null, .null, (.int 2)] :: oA au482 Uq488 :: oA ac482 (List.replicate 5 (0 : Int32)) :: []) → OGets p e below (OLeaves s (Q_law Z p0 p1 p2 p3 p4 p5 h0 n0 ) 32 192) (T490.setTop (mkF m 155 #[.val (.int p0), .val (.int p1), .val (.int p2), .val (.int p3), .val (.int p4), .val (.int p5), .val (.int per), .val (.int l1), .val (.int m1), .val (.int ph1), .val (.int w1), .val (.int l2), .val (.int m2), .val (.int ph2), .val (.int w2), .val (.ref b481), .unset, .unset, .unset, .unset, .unset, .unset, .unset, .unset, .unset, .unset] [(.int t489), (.ref b481)])) := by
          intro T490 lj490 t489 X490 N490 Z490 V490
          show OGets p e below _ (T490.setTop (mkF m 155 #[.val (.int p0), .val (.int p1), .val (.int p2), .val (.int p3), .val (.int p4), .val (.int p5), .val (.int per), .val (.int l1), .val (.int m1), .val (.int ph1), .val (.int w1), .val (.int l2), .val (.int m2), .val (.int ph2), .val (.int w2), .val (.ref b481), .unset, .unset, .unset, .unset, .unset, .unset, .unset, .unset, .unset, .unset] [(.int t489), (.ref b481)]))
          obtain ⟨cq491, kq491, q491a, q491b, q491c⟩ := isOf hZ rfl (V490.exa 0 rfl)
          obtain ⟨_, _, ⟨T491, L491, k491, n491⟩, -, X491, ⟨Lc491, hQ491, l491, y491, z491⟩, st491⟩ := X490.virtualBack hx (y := (⟨"com/example/pelt/pelt/StackCounts", "push", "(Z)V"⟩ : MethodName)) (z := (⟨"com/example/pelt/pelt/StackCounts", "push", "(Z)V"⟩ : MethodName)) hown (mvT hZ (hw _ (List.mem_of_getElem? (i := 22) rfl))) (mvT hZ (hw _ (List.mem_of_getElem? (i := 23) rfl))) (notFace_of_selects (args := #[]) (mvT hZ (hw _ (List.mem_of_getElem? (i := 25) rfl)))) (mvT hZ (hw _ (List.mem_of_getElem? (i := 25) rfl))) (mvT hZ (hw _ (List.mem_of_getElem? (i := 24) rfl))) (by decide) (backOf (W := 0) (rm_pushN l Z a0 hw [] b481 au482 ac482 per (2 : Int32) t489 Uq488 (List.replicate 5 (0 : Int32)) T490.heap n0 ([]) Z490 (by simp only [List.length_replicate, lUq488]) (by simp only [List.length_replicate]) (by decide) (by decide) V490) hZ (hw _ (List.mem_of_getElem? (i := 26) rfl)) (hw _ (List.mem_of_getElem? (i := 4) rfl)) (by decide) (by decide)) q491a q491c (g := (mkF m 155 #[.val (.int p0), .val (.int p1), .val (.int p2), .val (.int p3), .val (.int p4), .val (.int p5), .val (.int per), .val (.int l1), .val (.int m1), .val (.int ph1), .val (.int w1), .val (.int l2), .val (.int m2), .val (.int ph2), .val (.int w2), .val (.ref b481), .unset, .unset, .unset, .unset, .unset, .unset, .unset, .unset, .unset, .unset] [(.int t489), (.ref b481)])) rfl (by rw [hml]; rfl) (Steps.refl _) (argsL := [(.int t489)]) (rest := []) (lenOf pd_14 rfl) rfl (by show 2 * 0 + _ ≤ _; exact Nat.le_of_eq rfl) (hb hby at_155) (fun _ _ => ⟨rfl, rfl, Nat.le_of_ble_eq_true rfl, Nat.le_of_ble_eq_true rfl⟩)
          dsimp only [Pt.U, Pt.locs, Pt.cells, Pt.slots] at X491 l491 y491 z491 st491 hQ491
          rw [l491, y491, z491] at X491
          obtain ⟨rfl, N491q, V491⟩ := hQ491
          have N491 := Fr.app N490 N491q
          have V491v : OView Z n0 T491.heap (oC b481 [(.int per), (.ref au482), (.ref ac482), .null, .null, (.int 3)] :: oA au482 (puU Uq488 (2 : Int32) t489) :: oA ac482 (si (List.replicate 5 (0 : Int32)) (2 : Int32) (0 : Int32)) :: []) := V491
          obtain ⟨Uq491, hUq491⟩ : ∃ z, z = (puU Uq488 (2 : Int32) t489) := ⟨_, rfl⟩
          rw [← hUq491] at V491v
          have lUq491 : Uq491.length = 5 := by rw [hUq491]; simp only [puU_len, List.length_replicate, lUq488]
          clear hUq491
          rw [show (si (List.replicate 5 (0 : Int32)) (2 : Int32) (0 : Int32)) = (List.replicate 5 (0 : Int32)) from by decide] at V491v
          have Z491 : n0 ≤ T491.heap.size := V491v.big 0 rfl
          refine OGets.after st491 ?_
          refine OGets.step (fun _ => XS.aload X491.here hx rfl (hb hby at_158) rfl rfl) ?_
          have K493 : ∀ (T493 : State) (lj493 : List Loc) (t492 : Int32), Stand p l e room_1 s m #[(.int p0), (.int p1), (.int p2), (.int p3), (.int p4), (.int p5)] below meth c T493 lj493 3 16 → Fr n0 lj493 → n0 ≤ T493.heap.size → OView Z n0 T493.heap (oC b481 [(.int per), (.ref au482), (.ref ac482), .null, .null, (.int 3)] :: oA au482 Uq491 :: oA ac482 (List.replicate 5 (0 : Int32)) :: []) → OGets p e below (OLeaves s (Q_law Z p0 p1 p2 p3 p4 p5 h0 n0 ) 32 192) (T493.setTop (mkF m 173 #[.val (.int p0), .val (.int p1), .val (.int p2), .val (.int p3), .val (.int p4), .val (.int p5), .val (.int per), .val (.int l1), .val (.int m1), .val (.int ph1), .val (.int w1), .val (.int l2), .val (.int m2), .val (.int ph2), .val (.int w2), .val (.ref b481), .unset, .unset, .unset, .unset, .unset, .unset, .unset, .unset, .unset, .unset] [(.int t492), (.ref b481)])) := by
            intro T493 lj493 t492 X493 N493 Z493 V493
            show OGets p e below _ (T493.setTop (mkF m 173 #[.val (.int p0), .val (.int p1), .val (.int p2), .val (.int p3), .val (.int p4), .val (.int p5), .val (.int per), .val (.int l1), .val (.int m1), .val (.int ph1), .val (.int w1), .val (.int l2), .val (.int m2), .val (.int ph2), .val (.int w2), .val (.ref b481), .unset, .unset, .unset, .unset, .unset, .unset, .unset, .unset, .unset, .unset] [(.int t492), (.ref b481)]))
            obtain ⟨cq494, kq494, q494a, q494b, q494c⟩ := isOf hZ rfl (V493.exa 0 rfl)
            obtain ⟨_, _, ⟨T494, L494, k494, n494⟩, -, X494, ⟨Lc494, hQ494, l494, y494, z494⟩, st494⟩ := X493.virtualBack hx (y := (⟨"com/example/pelt/pelt/StackCounts", "push", "(Z)V"⟩ : MethodName)) (z := (⟨"com/example/pelt/pelt/StackCounts", "push", "(Z)V"⟩ : MethodName)) hown (mvT hZ (hw _ (List.mem_of_getElem? (i := 22) rfl))) (mvT hZ (hw _ (List.mem_of_getElem? (i := 23) rfl))) (notFace_of_selects (args := #[]) (mvT hZ (hw _ (List.mem_of_getElem? (i := 25) rfl)))) (mvT hZ (hw _ (List.mem_of_getElem? (i := 25) rfl))) (mvT hZ (hw _ (List.mem_of_getElem? (i := 24) rfl))) (by decide) (backOf (W := 0) (rm_pushN l Z a0 hw [] b481 au482 ac482 per (3 : Int32) t492 Uq491 (List.replicate 5 (0 : Int32)) T493.heap n0 ([]) Z493 (by simp only [List.length_replicate, lUq491]) (by simp only [List.length_replicate]) (by decide) (by decide) V493) hZ (hw _ (List.mem_of_getElem? (i := 26) rfl)) (hw _ (List.mem_of_getElem? (i := 4) rfl)) (by decide) (by decide)) q494a q494c (g := (mkF m 173 #[.val (.int p0), .val (.int p1), .val (.int p2), .val (.int p3), .val (.int p4), .val (.int p5), .val (.int per), .val (.int l1), .val (.int m1), .val (.int ph1), .val (.int w1), .val (.int l2), .val (.int m2), .val (.int ph2), .val (.int w2), .val (.ref b481), .unset, .unset, .unset, .unset, .unset, .unset, .unset, .unset, .unset, .unset] [(.int t492), (.ref b481)])) rfl (by rw [hml]; rfl) (Steps.refl _) (argsL := [(.int t492)]) (rest := []) (lenOf pd_14 rfl) rfl (by show 2 * 0 + _ ≤ _; exact Nat.le_of_eq rfl) (hb hby at_173) (fun _ _ => ⟨rfl, rfl, Nat.le_of_ble_eq_true rfl, Nat.le_of_ble_eq_true rfl⟩)
            dsimp only [Pt.U, Pt.locs, Pt.cells, Pt.slots] at X494 l494 y494 z494 st494 hQ494
            rw [l494, y494, z494] at X494
            obtain ⟨rfl, N494q, V494⟩ := hQ494
            have N494 := Fr.app N493 N494q
            have V494v : OView Z n0 T494.heap (oC b481 [(.int per), (.ref au482), (.ref ac482), .null, .null, (.int 4)] :: oA au482 (puU Uq491 (3 : Int32) t492) :: oA ac482 (si (List.replicate 5 (0 : Int32)) (3 : Int32) (0 : Int32)) :: []) := V494
            obtain ⟨Uq494, hUq494⟩ : ∃ z, z = (puU Uq491 (3 : Int32) t492) := ⟨_, rfl⟩
            rw [← hUq494] at V494v
            have lUq494 : Uq494.length = 5 := by rw [hUq494]; simp only [puU_len, List.length_replicate, lUq491]
            clear hUq494
            rw [show (si (List.replicate 5 (0 : Int32)) (3 : Int32) (0 : Int32)) = (List.replicate 5 (0 : Int32)) from by decide] at V494v
            have Z494 : n0 ≤ T494.heap.size := V494v.big 0 rfl
            refine OGets.after st494 ?_
            refine OGets.step (fun _ => XS.aload X494.here hx rfl (hb hby at_176) rfl rfl) ?_
            have K496 : ∀ (T496 : State) (lj496 : List Loc) (t495 : Int32), Stand p l e room_1 s m #[(.int p0), (.int p1), (.int p2), (.int p3), (.int p4), (.int p5)] below meth c T496 lj496 3 16 → Fr n0 lj496 → n0 ≤ T496.heap.size → OView Z n0 T496.heap (oC b481 [(.int per), (.ref au482), (.ref ac482), .null, .null, (.int 4)] :: oA au482 Uq494 :: oA ac482 (List.replicate 5 (0 : Int32)) :: []) → OGets p e below (OLeaves s (Q_law Z p0 p1 p2 p3 p4 p5 h0 n0 ) 32 192) (T496.setTop (mkF m 191 #[.val (.int p0), .val (.int p1), .val (.int p2), .val (.int p3), .val (.int p4), .val (.int p5), .val (.int per), .val (.int l1), .val (.int m1), .val (.int ph1), .val (.int w1), .val (.int l2), .val (.int m2), .val (.int ph2), .val (.int w2), .val (.ref b481), .unset, .unset, .unset, .unset, .unset, .unset, .unset, .unset, .unset, .unset] [(.int t495), (.ref b481)])) := by
              intro T496 lj496 t495 X496 N496 Z496 V496
              show OGets p e below _ (T496.setTop (mkF m 191 #[.val (.int p0), .val (.int p1), .val (.int p2), .val (.int p3), .val (.int p4), .val (.int p5), .val (.int per), .val (.int l1), .val (.int m1), .val (.int ph1), .val (.int w1), .val (.int l2), .val (.int m2), .val (.int ph2), .val (.int w2), .val (.ref b481), .unset, .unset, .unset, .unset, .unset, .unset, .unset, .unset, .unset, .unset] [(.int t495), (.ref b481)]))
              obtain ⟨cq497, kq497, q497a, q497b, q497c⟩ := isOf hZ rfl (V496.exa 0 rfl)
              obtain ⟨_, _, ⟨T497, L497, k497, n497⟩, -, X497, ⟨Lc497, hQ497, l497, y497, z497⟩, st497⟩ := X496.virtualBack hx (y := (⟨"com/example/pelt/pelt/StackCounts", "push", "(Z)V"⟩ : MethodName)) (z := (⟨"com/example/pelt/pelt/StackCounts", "push", "(Z)V"⟩ : MethodName)) hown (mvT hZ (hw _ (List.mem_of_getElem? (i := 22) rfl))) (mvT hZ (hw _ (List.mem_of_getElem? (i := 23) rfl))) (notFace_of_selects (args := #[]) (mvT hZ (hw _ (List.mem_of_getElem? (i := 25) rfl)))) (mvT hZ (hw _ (List.mem_of_getElem? (i := 25) rfl))) (mvT hZ (hw _ (List.mem_of_getElem? (i := 24) rfl))) (by decide) (backOf (W := 0) (rm_pushN l Z a0 hw [] b481 au482 ac482 per (4 : Int32) t495 Uq494 (List.replicate 5 (0 : Int32)) T496.heap n0 ([]) Z496 (by simp only [List.length_replicate, lUq494]) (by simp only [List.length_replicate]) (by decide) (by decide) V496) hZ (hw _ (List.mem_of_getElem? (i := 26) rfl)) (hw _ (List.mem_of_getElem? (i := 4) rfl)) (by decide) (by decide)) q497a q497c (g := (mkF m 191 #[.val (.int p0), .val (.int p1), .val (.int p2), .val (.int p3), .val (.int p4), .val (.int p5), .val (.int per), .val (.int l1), .val (.int m1), .val (.int ph1), .val (.int w1), .val (.int l2), .val (.int m2), .val (.int ph2), .val (.int w2), .val (.ref b481), .unset, .unset, .unset, .unset, .unset, .unset, .unset, .unset, .unset, .unset] [(.int t495), (.ref b481)])) rfl (by rw [hml]; rfl) (Steps.refl _) (argsL := [(.int t495)]) (rest := []) (lenOf pd_14 rfl) rfl (by show 2 * 0 + _ ≤ _; exact Nat.le_of_eq rfl) (hb hby at_191) (fun _ _ => ⟨rfl, rfl, Nat.le_of_ble_eq_true rfl, Nat.le_of_ble_eq_true rfl⟩)
              dsimp only [Pt.U, Pt.locs, Pt.cells, Pt.slots] at X497 l497 y497 z497 st497 hQ497
              rw [l497, y497, z497] at X497
              obtain ⟨rfl, N497q, V497⟩ := hQ497
              have N497 := Fr.app N496 N497q
              have V497v : OView Z n0 T497.heap (oC b481 [(.int per), (.ref au482), (.ref ac482), .null, .null, (.int 5)] :: oA au482 (puU Uq494 (4 : Int32) t495) :: oA ac482 (si (List.replicate 5 (0 : Int32)) (4 : Int32) (0 : Int32)) :: []) := V497
              obtain ⟨Uq497, hUq497⟩ : ∃ z, z = (puU Uq494 (4 : Int32) t495) := ⟨_, rfl⟩
              rw [← hUq497] at V497v
              have lUq497 : Uq497.length = 5 := by rw [hUq497]; simp only [puU_len, List.length_replicate, lUq494]
              clear hUq497
              rw [show (si (List.replicate 5 (0 : Int32)) (4 : Int32) (0 : Int32)) = (List.replicate 5 (0 : Int32)) from by decide] at V497v
              have Z497 : n0 ≤ T497.heap.size := V497v.big 0 rfl
              refine OGets.after st497 ?_
              refine OGets.step (fun _ => XS.aload X497.here hx rfl (hb hby at_194) rfl rfl) ?_
              obtain ⟨T498, h498, X498, e498, E498, A498, D498, -, st498⟩ := newO X497 hx hZ hown (hw _ (List.mem_of_getElem? (i := 29) rfl)) (hw _ (List.mem_of_getElem? (i := 30) rfl)) (hw _ (List.mem_of_getElem? (i := 31) rfl)) rfl (g := (mkF m 196 #[.val (.int p0), .val (.int p1), .val (.int p2), .val (.int p3), .val (.int p4), .val (.int p5), .val (.int per), .val (.int l1), .val (.int m1), .val (.int ph1), .val (.int w1), .val (.int l2), .val (.int m2), .val (.int ph2), .val (.int w2), .val (.ref b481), .unset, .unset, .unset, .unset, .unset, .unset, .unset, .unset, .unset, .unset] [(.ref b481)])) rfl (hb hby at_196) (by decide) (by decide)
              have V498' := V497v.newObj (ns := ns_Strand) (vs := [(.int 0), (.int 0), (.int 0), (.int 0), (.int 0)]) Z497 E498 A498 D498 (lay_ns_Strand hw) (by decide) (by decide)
              have Z498 : n0 ≤ h498.size := Nat.le_trans Z497 E498.1
              obtain ⟨b498, g498⟩ : ∃ z, z = T497.heap.size := ⟨_, rfl⟩
              rw [← g498] at V498' st498
              have V498 : OView Z n0 h498 (oS b498 [(.int 0), (.int 0), (.int 0), (.int 0), (.int 0)] :: oC b481 [(.int per), (.ref au482), (.ref ac482), .null, .null, (.int 5)] :: oA au482 Uq497 :: oA ac482 (List.replicate 5 (0 : Int32)) :: []) := V498'
              refine OGets.step st498 ?_
              refine OGets.step (fun _ => XS.dup X498.here hx rfl (hb hby at_199) rfl rfl) ?_
              refine OGets.step (fun _ => XS.iload X498.here hx rfl (hb hby at_200) rfl) ?_
              refine OGets.step (fun _ => XS.iload X498.here hx rfl (hb hby at_202) rfl) ?_
              refine OGets.step (fun _ => XS.iload X498.here hx rfl (hb hby at_204) rfl) ?_
              show OGets p e below _ (T498.setTop (mkF m 206 #[.val (.int p0), .val (.int p1), .val (.int p2), .val (.int p3), .val (.int p4), .val (.int p5), .val (.int per), .val (.int l1), .val (.int m1), .val (.int ph1), .val (.int w1), .val (.int l2), .val (.int m2), .val (.int ph2), .val (.int w2), .val (.ref b481), .unset, .unset, .unset, .unset, .unset, .unset, .unset, .unset, .unset, .unset] [(.int per), (.int m1), (.int l1), (.ref b498), (.ref b498), (.ref b481)]))
              refine OGets.step (fun _ => XS.iload X498.here hx rfl (hb hby at_206) rfl) ?_
              refine OGets.step (fun _ => XS.iload X498.here hx rfl (hb hby at_208) rfl) ?_
              obtain ⟨_, _, ⟨T499, L499, k499, n499⟩, -, X499, ⟨Lc499, hQ499, l499, y499, z499⟩, st499⟩ := X498.specialBack hx (y := (⟨"com/example/pelt/pelt/Strand", "<init>", "(IIIII)V"⟩ : MethodName)) rfl hown (mvT hZ (hw _ (List.mem_of_getElem? (i := 32) rfl))) (mvT hZ (hw _ (List.mem_of_getElem? (i := 33) rfl))) (mvT hZ (hw _ (List.mem_of_getElem? (i := 34) rfl))) (by decide) (backOf (W := 2) (rm_sin l Z a0 hw [] b498 l1 m1 per ph1 w1 h498 n0 (oC b481 [(.int per), (.ref au482), (.ref ac482), .null, .null, (.int 5)] :: oA au482 Uq497 :: oA ac482 (List.replicate 5 (0 : Int32)) :: []) Z498  V498) hZ (hw _ (List.mem_of_getElem? (i := 34) rfl)) (hw _ (List.mem_of_getElem? (i := 31) rfl)) (by decide) (by decide)) (g := (mkF m 210 #[.val (.int p0), .val (.int p1), .val (.int p2), .val (.int p3), .val (.int p4), .val (.int p5), .val (.int per), .val (.int l1), .val (.int m1), .val (.int ph1), .val (.int w1), .val (.int l2), .val (.int m2), .val (.int ph2), .val (.int w2), .val (.ref b481), .unset, .unset, .unset, .unset, .unset, .unset, .unset, .unset, .unset, .unset] [(.int w1), (.int ph1), (.int per), (.int m1), (.int l1), (.ref b498), (.ref b498), (.ref b481)])) rfl (by rw [hml]; rfl) (Steps.refl _) (a := b498) (argsL := [(.int l1), (.int m1), (.int per), (.int ph1), (.int w1)]) (rest := [(.ref b498), (.ref b481)]) (lenOf pd_15 rfl) rfl (by show 2 * 0 + _ ≤ _; exact Nat.le_of_eq rfl) (hb hby at_210) (fun _ _ => ⟨rfl, e498, Nat.le_of_ble_eq_true rfl, Nat.le_of_ble_eq_true rfl⟩)
              dsimp only [Pt.U, Pt.locs, Pt.cells, Pt.slots] at X499 l499 y499 z499 st499 hQ499
              rw [l499, y499, z499] at X499
              obtain ⟨rfl, N499q, V499⟩ := hQ499
              have N499 := Fr.app N497 N499q
              have V499v : OView Z n0 T499.heap (oS b498 [(.int l1), (.int m1), (.int per), (.int ph1), (.int w1)] :: oC b481 [(.int per), (.ref au482), (.ref ac482), .null, .null, (.int 5)] :: oA au482 Uq497 :: oA ac482 (List.replicate 5 (0 : Int32)) :: []) := V499
              have Z499 : n0 ≤ T499.heap.size := V499v.big 0 rfl
              refine OGets.after st499 ?_
              have V500_ : OView Z _ T499.heap (oC b481 [(.int per), (.ref au482), (.ref ac482), .null, .null, (.int 5)] :: oA ac482 (List.replicate 5 (0 : Int32)) :: oS b498 [(.int l1), (.int m1), (.int per), (.int ph1), (.int w1)] :: oA au482 Uq497 :: []) := ((V499v.bring 3 rfl).bring 2 rfl)
              obtain ⟨cq500, kq500, q500a, q500b, q500c⟩ := isOf hZ rfl (V500_.exa 0 rfl)
              obtain ⟨_, _, ⟨T500, L500, k500, n500⟩, -, X500, ⟨Lc500, hQ500, l500, y500, z500⟩, st500⟩ := X499.virtualBack hx (y := (⟨"com/example/pelt/pelt/StackCounts", "cover", "(Lcom/example/pelt/pelt/Strand;)V"⟩ : MethodName)) (z := (⟨"com/example/pelt/pelt/StackCounts", "cover", "(Lcom/example/pelt/pelt/Strand;)V"⟩ : MethodName)) hown (mvT hZ (hw _ (List.mem_of_getElem? (i := 51) rfl))) (mvT hZ (hw _ (List.mem_of_getElem? (i := 52) rfl))) (notFace_of_selects (args := #[]) (mvT hZ (hw _ (List.mem_of_getElem? (i := 54) rfl)))) (mvT hZ (hw _ (List.mem_of_getElem? (i := 54) rfl))) (mvT hZ (hw _ (List.mem_of_getElem? (i := 53) rfl))) (by decide) (backOf (W := 0) (rm_covN l Z a0 hw [] b481 b498 au482 ac482 l1 m1 per ph1 w1 (5 : Int32) (List.replicate 5 (0 : Int32)) T499.heap n0 (oA au482 Uq497 :: []) Z499 D1 hN (by simp only [List.length_replicate]) V500_) hZ (hw _ (List.mem_of_getElem? (i := 55) rfl)) (hw _ (List.mem_of_getElem? (i := 4) rfl)) (by decide) (by decide)) q500a q500c (g := (mkF m 213 #[.val (.int p0), .val (.int p1), .val (.int p2), .val (.int p3), .val (.int p4), .val (.int p5), .val (.int per), .val (.int l1), .val (.int m1), .val (.int ph1), .val (.int w1), .val (.int l2), .val (.int m2), .val (.int ph2), .val (.int w2), .val (.ref b481), .unset, .unset, .unset, .unset, .unset, .unset, .unset, .unset, .unset, .unset] [(.ref b498), (.ref b481)])) rfl (by rw [hml]; rfl) (Steps.refl _) (argsL := [(.ref b498)]) (rest := []) (lenOf pd_16 rfl) rfl (by show 2 * 0 + _ ≤ _; exact Nat.le_of_eq rfl) (hb hby at_213) (fun _ _ => ⟨rfl, rfl, Nat.le_of_ble_eq_true rfl, Nat.le_of_ble_eq_true rfl⟩)
              dsimp only [Pt.U, Pt.locs, Pt.cells, Pt.slots] at X500 l500 y500 z500 st500 hQ500
              rw [l500, y500, z500] at X500
              obtain ⟨rfl, N500q, ax500, V500⟩ := hQ500
              have N500 := Fr.app N499 N500q
              have V500v : OView Z n0 T500.heap (oX ax500 [(.ref b481), (.ref b498)] :: oC b481 [(.int per), (.ref au482), (.ref ac482), .null, .null, (.int 5)] :: oA ac482 (spN per l1 m1 ph1 w1 (List.replicate 5 (0 : Int32))) :: oS b498 [(.int l1), (.int m1), (.int per), (.int ph1), (.int w1)] :: oA au482 Uq497 :: []) := V500
              obtain ⟨Cq500, hCq500⟩ : ∃ z, z = (spN per l1 m1 ph1 w1 (List.replicate 5 (0 : Int32))) := ⟨_, rfl⟩
              rw [← hCq500] at V500v
              have lCq500 : Cq500.length = 5 := by rw [hCq500]; simp only [spN_len, List.length_replicate]
              have Z500 : n0 ≤ T500.heap.size := V500v.big 0 rfl
              refine OGets.after st500 ?_
              refine OGets.step (fun _ => XS.aload X500.here hx rfl (hb hby at_216) rfl rfl) ?_
              obtain ⟨T501, h501, X501, e501, E501, A501, D501, -, st501⟩ := newO X500 hx hZ hown (hw _ (List.mem_of_getElem? (i := 29) rfl)) (hw _ (List.mem_of_getElem? (i := 30) rfl)) (hw _ (List.mem_of_getElem? (i := 31) rfl)) rfl (g := (mkF m 218 #[.val (.int p0), .val (.int p1), .val (.int p2), .val (.int p3), .val (.int p4), .val (.int p5), .val (.int per), .val (.int l1), .val (.int m1), .val (.int ph1), .val (.int w1), .val (.int l2), .val (.int m2), .val (.int ph2), .val (.int w2), .val (.ref b481), .unset, .unset, .unset, .unset, .unset, .unset, .unset, .unset, .unset, .unset] [(.ref b481)])) rfl (hb hby at_218) (by decide) (by decide)
              have V501' := V500v.newObj (ns := ns_Strand) (vs := [(.int 0), (.int 0), (.int 0), (.int 0), (.int 0)]) Z500 E501 A501 D501 (lay_ns_Strand hw) (by decide) (by decide)
              have Z501 : n0 ≤ h501.size := Nat.le_trans Z500 E501.1
              obtain ⟨b501, g501⟩ : ∃ z, z = T500.heap.size := ⟨_, rfl⟩
              rw [← g501] at V501' st501
              have V501 : OView Z n0 h501 (oS b501 [(.int 0), (.int 0), (.int 0), (.int 0), (.int 0)] :: oX ax500 [(.ref b481), (.ref b498)] :: oC b481 [(.int per), (.ref au482), (.ref ac482), .null, .null, (.int 5)] :: oA ac482 Cq500 :: oS b498 [(.int l1), (.int m1), (.int per), (.int ph1), (.int w1)] :: oA au482 Uq497 :: []) := V501'
              refine OGets.step st501 ?_
              refine OGets.step (fun _ => XS.dup X501.here hx rfl (hb hby at_221) rfl rfl) ?_
              show OGets p e below _ (T501.setTop (mkF m 222 #[.val (.int p0), .val (.int p1), .val (.int p2), .val (.int p3), .val (.int p4), .val (.int p5), .val (.int per), .val (.int l1), .val (.int m1), .val (.int ph1), .val (.int w1), .val (.int l2), .val (.int m2), .val (.int ph2), .val (.int w2), .val (.ref b481), .unset, .unset, .unset, .unset, .unset, .unset, .unset, .unset, .unset, .unset] [(.ref b501), (.ref b501), (.ref b481)]))
              refine OGets.step (fun _ => XS.iload X501.here hx rfl (hb hby at_222) rfl) ?_
              refine OGets.step (fun _ => XS.iload X501.here hx rfl (hb hby at_224) rfl) ?_
              refine OGets.step (fun _ => XS.iload X501.here hx rfl (hb hby at_226) rfl) ?_
              refine OGets.step (fun _ => XS.iload X501.here hx rfl (hb hby at_228) rfl) ?_
              refine OGets.step (fun _ => XS.iload X501.here hx rfl (hb hby at_230) rfl) ?_
              obtain ⟨_, _, ⟨T502, L502, k502, n502⟩, -, X502, ⟨Lc502, hQ502, l502, y502, z502⟩, st502⟩ := X501.specialBack hx (y := (⟨"com/example/pelt/pelt/Strand", "<init>", "(IIIII)V"⟩ : MethodName)) rfl hown (mvT hZ (hw _ (List.mem_of_getElem? (i := 32) rfl))) (mvT hZ (hw _ (List.mem_of_getElem? (i := 33) rfl))) (mvT hZ (hw _ (List.mem_of_getElem? (i := 34) rfl))) (by decide) (backOf (W := 2) (rm_sin l Z a0 hw [] b501 l2 m2 per ph2 w2 h501 n0 (oX ax500 [(.ref b481), (.ref b498)] :: oC b481 [(.int per), (.ref au482), (.ref ac482), .null, .null, (.int 5)] :: oA ac482 Cq500 :: oS b498 [(.int l1), (.int m1), (.int per), (.int ph1), (.int w1)] :: oA au482 Uq497 :: []) Z501  V501) hZ (hw _ (List.mem_of_getElem? (i := 34) rfl)) (hw _ (List.mem_of_getElem? (i := 31) rfl)) (by decide) (by decide)) (g := (mkF m 232 #[.val (.int p0), .val (.int p1), .val (.int p2), .val (.int p3), .val (.int p4), .val (.int p5), .val (.int per), .val (.int l1), .val (.int m1), .val (.int ph1), .val (.int w1), .val (.int l2), .val (.int m2), .val (.int ph2), .val (.int w2), .val (.ref b481), .unset, .unset, .unset, .unset, .unset, .unset, .unset, .unset, .unset, .unset] [(.int w2), (.int ph2), (.int per), (.int m2), (.int l2), (.ref b501), (.ref b501), (.ref b481)])) rfl (by rw [hml]; rfl) (Steps.refl _) (a := b501) (argsL := [(.int l2), (.int m2), (.int per), (.int ph2), (.int w2)]) (rest := [(.ref b501), (.ref b481)]) (lenOf pd_15 rfl) rfl (by show 2 * 0 + _ ≤ _; exact Nat.le_of_eq rfl) (hb hby at_232) (fun _ _ => ⟨rfl, e501, Nat.le_of_ble_eq_true rfl, Nat.le_of_ble_eq_true rfl⟩)
              dsimp only [Pt.U, Pt.locs, Pt.cells, Pt.slots] at X502 l502 y502 z502 st502 hQ502
              rw [l502, y502, z502] at X502
              obtain ⟨rfl, N502q, V502⟩ := hQ502
              have N502 := Fr.app N500 N502q
              have V502v : OView Z n0 T502.heap (oS b501 [(.int l2), (.int m2), (.int per), (.int ph2), (.int w2)] :: oX ax500 [(.ref b481), (.ref b498)] :: oC b481 [(.int per), (.ref au482), (.ref ac482), .null, .null, (.int 5)] :: oA ac482 Cq500 :: oS b498 [(.int l1), (.int m1), (.int per), (.int ph1), (.int w1)] :: oA au482 Uq497 :: []) := V502
              have Z502 : n0 ≤ T502.heap.size := V502v.big 0 rfl
              refine OGets.after st502 ?_
              have V503_ : OView Z _ T502.heap (oC b481 [(.int per), (.ref au482), (.ref ac482), .null, .null, (.int 5)] :: oA ac482 Cq500 :: oS b501 [(.int l2), (.int m2), (.int per), (.int ph2), (.int w2)] :: oX ax500 [(.ref b481), (.ref b498)] :: oS b498 [(.int l1), (.int m1), (.int per), (.int ph1), (.int w1)] :: oA au482 Uq497 :: []) := ((V502v.bring 3 rfl).bring 3 rfl)
              obtain ⟨cq503, kq503, q503a, q503b, q503c⟩ := isOf hZ rfl (V503_.exa 0 rfl)
              obtain ⟨_, _, ⟨T503, L503, k503, n503⟩, -, X503, ⟨Lc503, hQ503, l503, y503, z503⟩, st503⟩ := X502.virtualBack hx (y := (⟨"com/example/pelt/pelt/StackCounts", "cover", "(Lcom/example/pelt/pelt/Strand;)V"⟩ : MethodName)) (z := (⟨"com/example/pelt/pelt/StackCounts", "cover", "(Lcom/example/pelt/pelt/Strand;)V"⟩ : MethodName)) hown (mvT hZ (hw _ (List.mem_of_getElem? (i := 51) rfl))) (mvT hZ (hw _ (List.mem_of_getElem? (i := 52) rfl))) (notFace_of_selects (args := #[]) (mvT hZ (hw _ (List.mem_of_getElem? (i := 54) rfl)))) (mvT hZ (hw _ (List.mem_of_getElem? (i := 54) rfl))) (mvT hZ (hw _ (List.mem_of_getElem? (i := 53) rfl))) (by decide) (backOf (W := 0) (rm_covN l Z a0 hw [] b481 b501 au482 ac482 l2 m2 per ph2 w2 (5 : Int32) Cq500 T502.heap n0 (oX ax500 [(.ref b481), (.ref b498)] :: oS b498 [(.int l1), (.int m1), (.int per), (.int ph1), (.int w1)] :: oA au482 Uq497 :: []) Z502 D2 hN (by simp only [List.length_replicate, lCq500]) V503_) hZ (hw _ (List.mem_of_getElem? (i := 55) rfl)) (hw _ (List.mem_of_getElem? (i := 4) rfl)) (by decide) (by decide)) q503a q503c (g := (mkF m 235 #[.val (.int p0), .val (.int p1), .val (.int p2), .val (.int p3), .val (.int p4), .val (.int p5), .val (.int per), .val (.int l1), .val (.int m1), .val (.int ph1), .val (.int w1), .val (.int l2), .val (.int m2), .val (.int ph2), .val (.int w2), .val (.ref b481), .unset, .unset, .unset, .unset, .unset, .unset, .unset, .unset, .unset, .unset] [(.ref b501), (.ref b481)])) rfl (by rw [hml]; rfl) (Steps.refl _) (argsL := [(.ref b501)]) (rest := []) (lenOf pd_16 rfl) rfl (by show 2 * 0 + _ ≤ _; exact Nat.le_of_eq rfl) (hb hby at_235) (fun _ _ => ⟨rfl, rfl, Nat.le_of_ble_eq_true rfl, Nat.le_of_ble_eq_true rfl⟩)
              dsimp only [Pt.U, Pt.locs, Pt.cells, Pt.slots] at X503 l503 y503 z503 st503 hQ503
              rw [l503, y503, z503] at X503
              obtain ⟨rfl, N503q, ax503, V503⟩ := hQ503
              have N503 := Fr.app N502 N503q
              have V503v : OView Z n0 T503.heap (oX ax503 [(.ref b481), (.ref b501)] :: oC b481 [(.int per), (.ref au482), (.ref ac482), .null, .null, (.int 5)] :: oA ac482 (spN per l2 m2 ph2 w2 Cq500) :: oS b501 [(.int l2), (.int m2), (.int per), (.int ph2), (.int w2)] :: oX ax500 [(.ref b481), (.ref b498)] :: oS b498 [(.int l1), (.int m1), (.int per), (.int ph1), (.int w1)] :: oA au482 Uq497 :: []) := V503
              obtain ⟨Cq503, hCq503⟩ : ∃ z, z = (spN per l2 m2 ph2 w2 Cq500) := ⟨_, rfl⟩
              rw [← hCq503] at V503v
              have lCq503 : Cq503.length = 5 := by rw [hCq503]; simp only [spN_len, lCq500]
              have Z503 : n0 ≤ T503.heap.size := V503v.big 0 rfl
              refine OGets.after st503 ?_
              show OGets p e below _ (T503.setTop (mkF m 238 #[.val (.int p0), .val (.int p1), .val (.int p2), .val (.int p3), .val (.int p4), .val (.int p5), .val (.int per), .val (.int l1), .val (.int m1), .val (.int ph1), .val (.int w1), .val (.int l2), .val (.int m2), .val (.int ph2), .val (.int w2), .val (.ref b481), .unset, .unset, .unset, .unset, .unset, .unset, .unset, .unset, .unset, .unset] []))
              refine OGets.step (fun _ => XS.aload X503.here hx rfl (hb hby at_238) rfl rfl) ?_
              have V504_ : OView Z _ T503.heap (oC b481 [(.int per), (.ref au482), (.ref ac482), .null, .null, (.int 5)] :: oA ac482 Cq503 :: oX ax503 [(.ref b481), (.ref b501)] :: oS b501 [(.int l2), (.int m2), (.int per), (.int ph2), (.int w2)] :: oX ax500 [(.ref b481), (.ref b498)] :: oS b498 [(.int l1), (.int m1), (.int per), (.int ph1), (.int w1)] :: oA au482 Uq497 :: []) := ((V503v.bring 2 rfl).bring 2 rfl)
              obtain ⟨cq504, kq504, q504a, q504b, q504c⟩ := isOf hZ rfl (V504_.exa 0 rfl)
              obtain ⟨_, _, ⟨T504, L504, k504, n504⟩, -, X504, ⟨Lc504, hQ504, l504, y504, z504⟩, st504⟩ := X503.virtualBack hx (y := (⟨"com/example/pelt/pelt/StackCounts", "pop", "()Z"⟩ : MethodName)) (z := (⟨"com/example/pelt/pelt/StackCounts", "pop", "()Z"⟩ : MethodName)) hown (mvT hZ (hw _ (List.mem_of_getElem? (i := 72) rfl))) (mvT hZ (hw _ (List.mem_of_getElem? (i := 73) rfl))) (notFace_of_selects (args := #[]) (mvT hZ (hw _ (List.mem_of_getElem? (i := 75) rfl)))) (mvT hZ (hw _ (List.mem_of_getElem? (i := 75) rfl))) (mvT hZ (hw _ (List.mem_of_getElem? (i := 74) rfl))) (by decide) (backOf (W := 0) (rm_popN l Z a0 hw [] b481 au482 ac482 per (5 : Int32) Cq503 T503.heap n0 (oX ax503 [(.ref b481), (.ref b501)] :: oS b501 [(.int l2), (.int m2), (.int per), (.int ph2), (.int w2)] :: oX ax500 [(.ref b481), (.ref b498)] :: oS b498 [(.int l1), (.int m1), (.int per), (.int ph1), (.int w1)] :: oA au482 Uq497 :: []) Z503 (by simp only [List.length_replicate, lCq503]) (by decide) (by decide) V504_) hZ (hw _ (List.mem_of_getElem? (i := 76) rfl)) (hw _ (List.mem_of_getElem? (i := 4) rfl)) (by decide) (by decide)) q504a q504c (g := (mkF m 240 #[.val (.int p0), .val (.int p1), .val (.int p2), .val (.int p3), .val (.int p4), .val (.int p5), .val (.int per), .val (.int l1), .val (.int m1), .val (.int ph1), .val (.int w1), .val (.int l2), .val (.int m2), .val (.int ph2), .val (.int w2), .val (.ref b481), .unset, .unset, .unset, .unset, .unset, .unset, .unset, .unset, .unset, .unset] [(.ref b481)])) rfl (by rw [hml]; rfl) (Steps.refl _) (argsL := []) (rest := []) (lenOf pd_17 rfl) rfl (by show 2 * 0 + _ ≤ _; exact Nat.le_of_eq rfl) (hb hby at_240) (fun _ _ => ⟨rfl, rfl, Nat.le_of_ble_eq_true rfl, Nat.le_of_ble_eq_true rfl⟩)
              dsimp only [Pt.U, Pt.locs, Pt.cells, Pt.slots] at X504 l504 y504 z504 st504 hQ504
              rw [l504, y504, z504] at X504
              obtain ⟨rfl, N504q, V504⟩ := hQ504
              have N504 := Fr.app N503 N504q
              have V504v : OView Z n0 T504.heap (oC b481 [(.int per), (.ref au482), (.ref ac482), .null, .null, (.int 4)] :: oA ac482 (poC Cq503 (4 : Int32)) :: oX ax503 [(.ref b481), (.ref b501)] :: oS b501 [(.int l2), (.int m2), (.int per), (.int ph2), (.int w2)] :: oX ax500 [(.ref b481), (.ref b498)] :: oS b498 [(.int l1), (.int m1), (.int per), (.int ph1), (.int w1)] :: oA au482 Uq497 :: []) := V504
              obtain ⟨Cq504, hCq504⟩ : ∃ z, z = (poC Cq503 (4 : Int32)) := ⟨_, rfl⟩
              rw [← hCq504] at V504v
              have lCq504 : Cq504.length = 5 := by rw [hCq504]; simp only [poC_len, lCq503]
              have Z504 : n0 ≤ T504.heap.size := V504v.big 0 rfl
              refine OGets.after st504 ?_
              refine OGets.step (fun _ => XS.istore X504.here hx rfl (hb hby at_243) rfl (l' := #[.val (.int p0), .val (.int p1), .val (.int p2), .val (.int p3), .val (.int p4), .val (.int p5), .val (.int per), .val (.int l1), .val (.int m1), .val (.int ph1), .val (.int w1), .val (.int l2), .val (.int m2), .val (.int ph2), .val (.int w2), .val (.ref b481), .val (.int (poV Cq503 (4 : Int32))), .unset, .unset, .unset, .unset, .unset, .unset, .unset, .unset, .unset]) rfl) ?_
              refine OGets.step (fun _ => XS.aload X504.here hx rfl (hb hby at_245) rfl rfl) ?_
              obtain ⟨cq505, kq505, q505a, q505b, q505c⟩ := isOf hZ rfl (V504v.exa 0 rfl)
              obtain ⟨_, _, ⟨T505, L505, k505, n505⟩, -, X505, ⟨Lc505, hQ505, l505, y505, z505⟩, st505⟩ := X504.virtualBack hx (y := (⟨"com/example/pelt/pelt/StackCounts", "pop", "()Z"⟩ : MethodName)) (z := (⟨"com/example/pelt/pelt/StackCounts", "pop", "()Z"⟩ : MethodName)) hown (mvT hZ (hw _ (List.mem_of_getElem? (i := 72) rfl))) (mvT hZ (hw _ (List.mem_of_getElem? (i := 73) rfl))) (notFace_of_selects (args := #[]) (mvT hZ (hw _ (List.mem_of_getElem? (i := 75) rfl)))) (mvT hZ (hw _ (List.mem_of_getElem? (i := 75) rfl))) (mvT hZ (hw _ (List.mem_of_getElem? (i := 74) rfl))) (by decide) (backOf (W := 0) (rm_popN l Z a0 hw [] b481 au482 ac482 per (4 : Int32) Cq504 T504.heap n0 (oX ax503 [(.ref b481), (.ref b501)] :: oS b501 [(.int l2), (.int m2), (.int per), (.int ph2), (.int w2)] :: oX ax500 [(.ref b481), (.ref b498)] :: oS b498 [(.int l1), (.int m1), (.int per), (.int ph1), (.int w1)] :: oA au482 Uq497 :: []) Z504 (by simp only [List.length_replicate, lCq504]) (by decide) (by decide) V504v) hZ (hw _ (List.mem_of_getElem? (i := 76) rfl)) (hw _ (List.mem_of_getElem? (i := 4) rfl)) (by decide) (by decide)) q505a q505c (g := (mkF m 247 #[.val (.int p0), .val (.int p1), .val (.int p2), .val (.int p3), .val (.int p4), .val (.int p5), .val (.int per), .val (.int l1), .val (.int m1), .val (.int ph1), .val (.int w1), .val (.int l2), .val (.int m2), .val (.int ph2), .val (.int w2), .val (.ref b481), .val (.int (poV Cq503 (4 : Int32))), .unset, .unset, .unset, .unset, .unset, .unset, .unset, .unset, .unset] [(.ref b481)])) rfl (by rw [hml]; rfl) (Steps.refl _) (argsL := []) (rest := []) (lenOf pd_17 rfl) rfl (by show 2 * 0 + _ ≤ _; exact Nat.le_of_eq rfl) (hb hby at_247) (fun _ _ => ⟨rfl, rfl, Nat.le_of_ble_eq_true rfl, Nat.le_of_ble_eq_true rfl⟩)
              dsimp only [Pt.U, Pt.locs, Pt.cells, Pt.slots] at X505 l505 y505 z505 st505 hQ505
              rw [l505, y505, z505] at X505
              obtain ⟨rfl, N505q, V505⟩ := hQ505
              have N505 := Fr.app N504 N505q
              have V505v : OView Z n0 T505.heap (oC b481 [(.int per), (.ref au482), (.ref ac482), .null, .null, (.int 3)] :: oA ac482 (poC Cq504 (3 : Int32)) :: oX ax503 [(.ref b481), (.ref b501)] :: oS b501 [(.int l2), (.int m2), (.int per), (.int ph2), (.int w2)] :: oX ax500 [(.ref b481), (.ref b498)] :: oS b498 [(.int l1), (.int m1), (.int per), (.int ph1), (.int w1)] :: oA au482 Uq497 :: []) := V505
              obtain ⟨Cq505, hCq505⟩ : ∃ z, z = (poC Cq504 (3 : Int32)) := ⟨_, rfl⟩
              rw [← hCq505] at V505v
              have lCq505 : Cq505.length = 5 := by rw [hCq505]; simp only [poC_len, lCq504]
              have Z505 : n0 ≤ T505.heap.size := V505v.big 0 rfl
              refine OGets.after st505 ?_
              refine OGets.step (fun _ => XS.istore X505.here hx rfl (hb hby at_250) rfl (l' := #[.val (.int p0), .val (.int p1), .val (.int p2), .val (.int p3), .val (.int p4), .val (.int p5), .val (.int per), .val (.int l1), .val (.int m1), .val (.int ph1), .val (.int w1), .val (.int l2), .val (.int m2), .val (.int ph2), .val (.int w2), .val (.ref b481), .val (.int (poV Cq503 (4 : Int32))), .val (.int (poV Cq504 (3 : Int32))), .unset, .unset, .unset, .unset, .unset, .unset, .unset, .unset]) rfl) ?_
              refine OGets.step (fun _ => XS.aload X505.here hx rfl (hb hby at_252) rfl rfl) ?_
              show OGets p e below _ (T505.setTop (mkF m 254 #[.val (.int p0), .val (.int p1), .val (.int p2), .val (.int p3), .val (.int p4), .val (.int p5), .val (.int per), .val (.int l1), .val (.int m1), .val (.int ph1), .val (.int w1), .val (.int l2), .val (.int m2), .val (.int ph2), .val (.int w2), .val (.ref b481), .val (.int (poV Cq503 (4 : Int32))), .val (.int (poV Cq504 (3 : Int32))), .unset, .unset, .unset, .unset, .unset, .unset, .unset, .unset] [(.ref b481)]))
              obtain ⟨cq506, kq506, q506a, q506b, q506c⟩ := isOf hZ rfl (V505v.exa 0 rfl)
              obtain ⟨_, _, ⟨T506, L506, k506, n506⟩, -, X506, ⟨Lc506, hQ506, l506, y506, z506⟩, st506⟩ := X505.virtualBack hx (y := (⟨"com/example/pelt/pelt/StackCounts", "pop", "()Z"⟩ : MethodName)) (z := (⟨"com/example/pelt/pelt/StackCounts", "pop", "()Z"⟩ : MethodName)) hown (mvT hZ (hw _ (List.mem_of_getElem? (i := 72) rfl))) (mvT hZ (hw _ (List.mem_of_getElem? (i := 73) rfl))) (notFace_of_selects (args := #[]) (mvT hZ (hw _ (List.mem_of_getElem? (i := 75) rfl)))) (mvT hZ (hw _ (List.mem_of_getElem? (i := 75) rfl))) (mvT hZ (hw _ (List.mem_of_getElem? (i := 74) rfl))) (by decide) (backOf (W := 0) (rm_popN l Z a0 hw [] b481 au482 ac482 per (3 : Int32) Cq505 T505.heap n0 (oX ax503 [(.ref b481), (.ref b501)] :: oS b501 [(.int l2), (.int m2), (.int per), (.int ph2), (.int w2)] :: oX ax500 [(.ref b481), (.ref b498)] :: oS b498 [(.int l1), (.int m1), (.int per), (.int ph1), (.int w1)] :: oA au482 Uq497 :: []) Z505 (by simp only [List.length_replicate, lCq505]) (by decide) (by decide) V505v) hZ (hw _ (List.mem_of_getElem? (i := 76) rfl)) (hw _ (List.mem_of_getElem? (i := 4) rfl)) (by decide) (by decide)) q506a q506c (g := (mkF m 254 #[.val (.int p0), .val (.int p1), .val (.int p2), .val (.int p3), .val (.int p4), .val (.int p5), .val (.int per), .val (.int l1), .val (.int m1), .val (.int ph1), .val (.int w1), .val (.int l2), .val (.int m2), .val (.int ph2), .val (.int w2), .val (.ref b481), .val (.int (poV Cq503 (4 : Int32))), .val (.int (poV Cq504 (3 : Int32))), .unset, .unset, .unset, .unset, .unset, .unset, .unset, .unset] [(.ref b481)])) rfl (by rw [hml]; rfl) (Steps.refl _) (argsL := []) (rest := []) (lenOf pd_17 rfl) rfl (by show 2 * 0 + _ ≤ _; exact Nat.le_of_eq rfl) (hb hby at_254) (fun _ _ => ⟨rfl, rfl, Nat.le_of_ble_eq_true rfl, Nat.le_of_ble_eq_true rfl⟩)
              dsimp only [Pt.U, Pt.locs, Pt.cells, Pt.slots] at X506 l506 y506 z506 st506 hQ506
              rw [l506, y506, z506] at X506
              obtain ⟨rfl, N506q, V506⟩ := hQ506
              have N506 := Fr.app N505 N506q
              have V506v : OView Z n0 T506.heap (oC b481 [(.int per), (.ref au482), (.ref ac482), .null, .null, (.int 2)] :: oA ac482 (poC Cq505 (2 : Int32)) :: oX ax503 [(.ref b481), (.ref b501)] :: oS b501 [(.int l2), (.int m2), (.int per), (.int ph2), (.int w2)] :: oX ax500 [(.ref b481), (.ref b498)] :: oS b498 [(.int l1), (.int m1), (.int per), (.int ph1), (.int w1)] :: oA au482 Uq497 :: []) := V506
              obtain ⟨Cq506, hCq506⟩ : ∃ z, z = (poC Cq505 (2 : Int32)) := ⟨_, rfl⟩
              rw [← hCq506] at V506v
              have lCq506 : Cq506.length = 5 := by rw [hCq506]; simp only [poC_len, lCq505]
              have Z506 : n0 ≤ T506.heap.size := V506v.big 0 rfl
              refine OGets.after st506 ?_
              refine OGets.step (fun _ => XS.istore X506.here hx rfl (hb hby at_257) rfl (l' := #[.val (.int p0), .val (.int p1), .val (.int p2), .val (.int p3), .val (.int p4), .val (.int p5), .val (.int per), .val (.int l1), .val (.int m1), .val (.int ph1), .val (.int w1), .val (.int l2), .val (.int m2), .val (.int ph2), .val (.int w2), .val (.ref b481), .val (.int (poV Cq503 (4 : Int32))), .val (.int (poV Cq504 (3 : Int32))), .val (.int (poV Cq505 (2 : Int32))), .unset, .unset, .unset, .unset, .unset, .unset, .unset]) rfl) ?_
              refine OGets.step (fun _ => XS.aload X506.here hx rfl (hb hby at_259) rfl rfl) ?_
              obtain ⟨cq507, kq507, q507a, q507b, q507c⟩ := isOf hZ rfl (V506v.exa 0 rfl)
              obtain ⟨_, _, ⟨T507, L507, k507, n507⟩, -, X507, ⟨Lc507, hQ507, l507, y507, z507⟩, st507⟩ := X506.virtualBack hx (y := (⟨"com/example/pelt/pelt/StackCounts", "pop", "()Z"⟩ : MethodName)) (z := (⟨"com/example/pelt/pelt/StackCounts", "pop", "()Z"⟩ : MethodName)) hown (mvT hZ (hw _ (List.mem_of_getElem? (i := 72) rfl))) (mvT hZ (hw _ (List.mem_of_getElem? (i := 73) rfl))) (notFace_of_selects (args := #[]) (mvT hZ (hw _ (List.mem_of_getElem? (i := 75) rfl)))) (mvT hZ (hw _ (List.mem_of_getElem? (i := 75) rfl))) (mvT hZ (hw _ (List.mem_of_getElem? (i := 74) rfl))) (by decide) (backOf (W := 0) (rm_popN l Z a0 hw [] b481 au482 ac482 per (2 : Int32) Cq506 T506.heap n0 (oX ax503 [(.ref b481), (.ref b501)] :: oS b501 [(.int l2), (.int m2), (.int per), (.int ph2), (.int w2)] :: oX ax500 [(.ref b481), (.ref b498)] :: oS b498 [(.int l1), (.int m1), (.int per), (.int ph1), (.int w1)] :: oA au482 Uq497 :: []) Z506 (by simp only [List.length_replicate, lCq506]) (by decide) (by decide) V506v) hZ (hw _ (List.mem_of_getElem? (i := 76) rfl)) (hw _ (List.mem_of_getElem? (i := 4) rfl)) (by decide) (by decide)) q507a q507c (g := (mkF m 261 #[.val (.int p0), .val (.int p1), .val (.int p2), .val (.int p3), .val (.int p4), .val (.int p5), .val (.int per), .val (.int l1), .val (.int m1), .val (.int ph1), .val (.int w1), .val (.int l2), .val (.int m2), .val (.int ph2), .val (.int w2), .val (.ref b481), .val (.int (poV Cq503 (4 : Int32))), .val (.int (poV Cq504 (3 : Int32))), .val (.int (poV Cq505 (2 : Int32))), .unset, .unset, .unset, .unset, .unset, .unset, .unset] [(.ref b481)])) rfl (by rw [hml]; rfl) (Steps.refl _) (argsL := []) (rest := []) (lenOf pd_17 rfl) rfl (by show 2 * 0 + _ ≤ _; exact Nat.le_of_eq rfl) (hb hby at_261) (fun _ _ => ⟨rfl, rfl, Nat.le_of_ble_eq_true rfl, Nat.le_of_ble_eq_true rfl⟩)
              dsimp only [Pt.U, Pt.locs, Pt.cells, Pt.slots] at X507 l507 y507 z507 st507 hQ507
              rw [l507, y507, z507] at X507
              obtain ⟨rfl, N507q, V507⟩ := hQ507
              have N507 := Fr.app N506 N507q
              have V507v : OView Z n0 T507.heap (oC b481 [(.int per), (.ref au482), (.ref ac482), .null, .null, (.int 1)] :: oA ac482 (poC Cq506 (1 : Int32)) :: oX ax503 [(.ref b481), (.ref b501)] :: oS b501 [(.int l2), (.int m2), (.int per), (.int ph2), (.int w2)] :: oX ax500 [(.ref b481), (.ref b498)] :: oS b498 [(.int l1), (.int m1), (.int per), (.int ph1), (.int w1)] :: oA au482 Uq497 :: []) := V507
              obtain ⟨Cq507, hCq507⟩ : ∃ z, z = (poC Cq506 (1 : Int32)) := ⟨_, rfl⟩
              rw [← hCq507] at V507v
              have lCq507 : Cq507.length = 5 := by rw [hCq507]; simp only [poC_len, lCq506]
              have Z507 : n0 ≤ T507.heap.size := V507v.big 0 rfl
              refine OGets.after st507 ?_
              refine OGets.step (fun _ => XS.istore X507.here hx rfl (hb hby at_264) rfl (l' := #[.val (.int p0), .val (.int p1), .val (.int p2), .val (.int p3), .val (.int p4), .val (.int p5), .val (.int per), .val (.int l1), .val (.int m1), .val (.int ph1), .val (.int w1), .val (.int l2), .val (.int m2), .val (.int ph2), .val (.int w2), .val (.ref b481), .val (.int (poV Cq503 (4 : Int32))), .val (.int (poV Cq504 (3 : Int32))), .val (.int (poV Cq505 (2 : Int32))), .val (.int (poV Cq506 (1 : Int32))), .unset, .unset, .unset, .unset, .unset, .unset]) rfl) ?_
              refine OGets.step (fun _ => XS.aload X507.here hx rfl (hb hby at_266) rfl rfl) ?_
              obtain ⟨cq508, kq508, q508a, q508b, q508c⟩ := isOf hZ rfl (V507v.exa 0 rfl)
              obtain ⟨_, _, ⟨T508, L508, k508, n508⟩, -, X508, ⟨Lc508, hQ508, l508, y508, z508⟩, st508⟩ := X507.virtualBack hx (y := (⟨"com/example/pelt/pelt/StackCounts", "pop", "()Z"⟩ : MethodName)) (z := (⟨"com/example/pelt/pelt/StackCounts", "pop", "()Z"⟩ : MethodName)) hown (mvT hZ (hw _ (List.mem_of_getElem? (i := 72) rfl))) (mvT hZ (hw _ (List.mem_of_getElem? (i := 73) rfl))) (notFace_of_selects (args := #[]) (mvT hZ (hw _ (List.mem_of_getElem? (i := 75) rfl)))) (mvT hZ (hw _ (List.mem_of_getElem? (i := 75) rfl))) (mvT hZ (hw _ (List.mem_of_getElem? (i := 74) rfl))) (by decide) (backOf (W := 0) (rm_popN l Z a0 hw [] b481 au482 ac482 per (1 : Int32) Cq507 T507.heap n0 (oX ax503 [(.ref b481), (.ref b501)] :: oS b501 [(.int l2), (.int m2), (.int per), (.int ph2), (.int w2)] :: oX ax500 [(.ref b481), (.ref b498)] :: oS b498 [(.int l1), (.int m1), (.int per), (.int ph1), (.int w1)] :: oA au482 Uq497 :: []) Z507 (by simp only [List.length_replicate, lCq507]) (by decide) (by decide) V507v) hZ (hw _ (List.mem_of_getElem? (i := 76) rfl)) (hw _ (List.mem_of_getElem? (i := 4) rfl)) (by decide) (by decide)) q508a q508c (g := (mkF m 268 #[.val (.int p0), .val (.int p1), .val (.int p2), .val (.int p3), .val (.int p4), .val (.int p5), .val (.int per), .val (.int l1), .val (.int m1), .val (.int ph1), .val (.int w1), .val (.int l2), .val (.int m2), .val (.int ph2), .val (.int w2), .val (.ref b481), .val (.int (poV Cq503 (4 : Int32))), .val (.int (poV Cq504 (3 : Int32))), .val (.int (poV Cq505 (2 : Int32))), .val (.int (poV Cq506 (1 : Int32))), .unset, .unset, .unset, .unset, .unset, .unset] [(.ref b481)])) rfl (by rw [hml]; rfl) (Steps.refl _) (argsL := []) (rest := []) (lenOf pd_17 rfl) rfl (by show 2 * 0 + _ ≤ _; exact Nat.le_of_eq rfl) (hb hby at_268) (fun _ _ => ⟨rfl, rfl, Nat.le_of_ble_eq_true rfl, Nat.le_of_ble_eq_true rfl⟩)
              dsimp only [Pt.U, Pt.locs, Pt.cells, Pt.slots] at X508 l508 y508 z508 st508 hQ508
              rw [l508, y508, z508] at X508
              obtain ⟨rfl, N508q, V508⟩ := hQ508
              have N508 := Fr.app N507 N508q
              have V508v : OView Z n0 T508.heap (oC b481 [(.int per), (.ref au482), (.ref ac482), .null, .null, (.int 0)] :: oA ac482 (poC Cq507 (0 : Int32)) :: oX ax503 [(.ref b481), (.ref b501)] :: oS b501 [(.int l2), (.int m2), (.int per), (.int ph2), (.int w2)] :: oX ax500 [(.ref b481), (.ref b498)] :: oS b498 [(.int l1), (.int m1), (.int per), (.int ph1), (.int w1)] :: oA au482 Uq497 :: []) := V508
              obtain ⟨Cq508, hCq508⟩ : ∃ z, z = (poC Cq507 (0 : Int32)) := ⟨_, rfl⟩
              rw [← hCq508] at V508v
              have lCq508 : Cq508.length = 5 := by rw [hCq508]; simp only [poC_len, lCq507]
              have Z508 : n0 ≤ T508.heap.size := V508v.big 0 rfl
              refine OGets.after st508 ?_
              show OGets p e below _ (T508.setTop (mkF m 271 #[.val (.int p0), .val (.int p1), .val (.int p2), .val (.int p3), .val (.int p4), .val (.int p5), .val (.int per), .val (.int l1), .val (.int m1), .val (.int ph1), .val (.int w1), .val (.int l2), .val (.int m2), .val (.int ph2), .val (.int w2), .val (.ref b481), .val (.int (poV Cq503 (4 : Int32))), .val (.int (poV Cq504 (3 : Int32))), .val (.int (poV Cq505 (2 : Int32))), .val (.int (poV Cq506 (1 : Int32))), .unset, .unset, .unset, .unset, .unset, .unset] [(.int (poV Cq507 (0 : Int32)))]))
              refine OGets.step (fun _ => XS.istore X508.here hx rfl (hb hby at_271) rfl (l' := #[.val (.int p0), .val (.int p1), .val (.int p2), .val (.int p3), .val (.int p4), .val (.int p5), .val (.int per), .val (.int l1), .val (.int m1), .val (.int ph1), .val (.int w1), .val (.int l2), .val (.int m2), .val (.int ph2), .val (.int w2), .val (.ref b481), .val (.int (poV Cq503 (4 : Int32))), .val (.int (poV Cq504 (3 : Int32))), .val (.int (poV Cq505 (2 : Int32))), .val (.int (poV Cq506 (1 : Int32))), .val (.int (poV Cq507 (0 : Int32))), .unset, .unset, .unset, .unset, .unset]) rfl) ?_
              have K509 : ∀ (T509 : State) (lj509 : List Loc), Stand p l e room_1 s m #[(.int p0), (.int p1), (.int p2), (.int p3), (.int p4), (.int p5)] below meth c T509 lj509 7 30 → Fr n0 lj509 → n0 ≤ T509.heap.size → OView Z n0 T509.heap (oC b481 [(.int per), (.ref au482), (.ref ac482), .null, .null, (.int 0)] :: oA ac482 Cq508 :: oX ax503 [(.ref b481), (.ref b501)] :: oS b501 [(.int l2), (.int m2), (.int per), (.int ph2), (.int w2)] :: oX ax500 [(.ref b481), (.ref b498)] :: oS b498 [(.int l1), (.int m1), (.int per), (.int ph1), (.int w1)] :: oA au482 Uq497 :: []) → OGets p e below (OLeaves s (Q_law Z p0 p1 p2 p3 p4 p5 h0 n0 ) 32 192) (T509.setTop (mkF m 312 #[.val (.int p0), .val (.int p1), .val (.int p2), .val (.int p3), .val (.int p4), .val (.int p5), .val (.int per), .val (.int l1), .val (.int m1), .val (.int ph1), .val (.int w1), .val (.int l2), .val (.int m2), .val (.int ph2), .val (.int w2), .val (.ref b481), .val (.int (poV Cq503 (4 : Int32))), .val (.int (poV Cq504 (3 : Int32))), .val (.int (poV Cq505 (2 : Int32))), .val (.int (poV Cq506 (1 : Int32))), .val (.int (poV Cq507 (0 : Int32))), .unset, .unset, .unset, .unset, .unset] [(.int (eF (4 : Int32) per l1 m1 ph1 w1 l2 m2 ph2 w2))])) := by
                intro T509 lj509 X509 N509 Z509 V509
                show OGets p e below _ (T509.setTop (mkF m 312 #[.val (.int p0), .val (.int p1), .val (.int p2), .val (.int p3), .val (.int p4), .val (.int p5), .val (.int per), .val (.int l1), .val (.int m1), .val (.int ph1), .val (.int w1), .val (.int l2), .val (.int m2), .val (.int ph2), .val (.int w2), .val (.ref b481), .val (.int (poV Cq503 (4 : Int32))), .val (.int (poV Cq504 (3 : Int32))), .val (.int (poV Cq505 (2 : Int32))), .val (.int (poV Cq506 (1 : Int32))), .val (.int (poV Cq507 (0 : Int32))), .unset, .unset, .unset, .unset, .unset] [(.int (eF (4 : Int32) per l1 m1 ph1 w1 l2 m2 ph2 w2))]))
                refine OGets.step (fun _ => XS.istore X509.here hx rfl (hb hby at_312) rfl (l' := #[.val (.int p0), .val (.int p1), .val (.int p2), .val (.int p3), .val (.int p4), .val (.int p5), .val (.int per), .val (.int l1), .val (.int m1), .val (.int ph1), .val (.int w1), .val (.int l2), .val (.int m2), .val (.int ph2), .val (.int w2), .val (.ref b481), .val (.int (poV Cq503 (4 : Int32))), .val (.int (poV Cq504 (3 : Int32))), .val (.int (poV Cq505 (2 : Int32))), .val (.int (poV Cq506 (1 : Int32))), .val (.int (poV Cq507 (0 : Int32))), .val (.int (eF (4 : Int32) per l1 m1 ph1 w1 l2 m2 ph2 w2)), .unset, .unset, .unset, .unset]) rfl) ?_
                have K510 : ∀ (T510 : State) (lj510 : List Loc), Stand p l e room_1 s m #[(.int p0), (.int p1), (.int p2), (.int p3), (.int p4), (.int p5)] below meth c T510 lj510 7 30 → Fr n0 lj510 → n0 ≤ T510.heap.size → OView Z n0 T510.heap (oC b481 [(.int per), (.ref au482), (.ref ac482), .null, .null, (.int 0)] :: oA ac482 Cq508 :: oX ax503 [(.ref b481), (.ref b501)] :: oS b501 [(.int l2), (.int m2), (.int per), (.int ph2), (.int w2)] :: oX ax500 [(.ref b481), (.ref b498)] :: oS b498 [(.int l1), (.int m1), (.int per), (.int ph1), (.int w1)] :: oA au482 Uq497 :: []) → OGets p e below (OLeaves s (Q_law Z p0 p1 p2 p3 p4 p5 h0 n0 ) 32 192) (T510.setTop (mkF m 353 #[.val (.int p0), .val (.int p1), .val (.int p2), .val (.int p3), .val (.int p4), .val (.int p5), .val (.int per), .val (.int l1), .val (.int m1), .val (.int ph1), .val (.int w1), .val (.int l2), .val (.int m2), .val (.int ph2), .val (.int w2), .val (.ref b481), .val (.int (poV Cq503 (4 : Int32))), .val (.int (poV Cq504 (3 : Int32))), .val (.int (poV Cq505 (2 : Int32))), .val (.int (poV Cq506 (1 : Int32))), .val (.int (poV Cq507 (0 : Int32))), .val (.int (eF (4 : Int32) per l1 m1 ph1 w1 l2 m2 ph2 w2)), .unset, .unset, .unset, .unset] [(.int (eF (3 : Int32) per l1 m1 ph1 w1 l2 m2 ph2 w2))])) := by
                  intro T510 lj510 X510 N510 Z510 V510
                  show OGets p e below _ (T510.setTop (mkF m 353 #[.val (.int p0), .val (.int p1), .val (.int p2), .val (.int p3), .val (.int p4), .val (.int p5), .val (.int per), .val (.int l1), .val (.int m1), .val (.int ph1), .val (.int w1), .val (.int l2), .val (.int m2), .val (.int ph2), .val (.int w2), .val (.ref b481), .val (.int (poV Cq503 (4 : Int32))), .val (.int (poV Cq504 (3 : Int32))), .val (.int (poV Cq505 (2 : Int32))), .val (.int (poV Cq506 (1 : Int32))), .val (.int (poV Cq507 (0 : Int32))), .val (.int (eF (4 : Int32) per l1 m1 ph1 w1 l2 m2 ph2 w2)), .unset, .unset, .unset, .unset] [(.int (eF (3 : Int32) per l1 m1 ph1 w1 l2 m2 ph2 w2))]))
                  refine OGets.step (fun _ => XS.istore X510.here hx rfl (hb hby at_353) rfl (l' := #[.val (.int p0), .val (.int p1), .val (.int p2), .val (.int p3), .val (.int p4), .val (.int p5), .val (.int per), .val (.int l1), .val (.int m1), .val (.int ph1), .val (.int w1), .val (.int l2), .val (.int m2), .val (.int ph2), .val (.int w2), .val (.ref b481), .val (.int (poV Cq503 (4 : Int32))), .val (.int (poV Cq504 (3 : Int32))), .val (.int (poV Cq505 (2 : Int32))), .val (.int (poV Cq506 (1 : Int32))), .val (.int (poV Cq507 (0 : Int32))), .val (.int (eF (4 : Int32) per l1 m1 ph1 w1 l2 m2 ph2 w2)), .val (.int (eF (3 : Int32) per l1 m1 ph1 w1 l2 m2 ph2 w2)), .unset, .unset, .unset]) rfl) ?_
                  have K511 : ∀ (T511 : State) (lj511 : List Loc), Stand p l e room_1 s m #[(.int p0), (.int p1), (.int p2), (.int p3), (.int p4), (.int p5)] below meth c T511 lj511 7 30 → Fr n0 lj511 → n0 ≤ T511.heap.size → OView Z n0 T511.heap (oC b481 [(.int per), (.ref au482), (.ref ac482), .null, .null, (.int 0)] :: oA ac482 Cq508 :: oX ax503 [(.ref b481), (.ref b501)] :: oS b501 [(.int l2), (.int m2), (.int per), (.int ph2), (.int w2)] :: oX ax500 [(.ref b481), (.ref b498)] :: oS b498 [(.int l1), (.int m1), (.int per), (.int ph1), (.int w1)] :: oA au482 Uq497 :: []) → OGets p e below (OLeaves s (Q_law Z p0 p1 p2 p3 p4 p5 h0 n0 ) 32 192) (T511.setTop (mkF m 394 #[.val (.int p0), .val (.int p1), .val (.int p2), .val (.int p3), .val (.int p4), .val (.int p5), .val (.int per), .val (.int l1), .val (.int m1), .val (.int ph1), .val (.int w1), .val (.int l2), .val (.int m2), .val (.int ph2), .val (.int w2), .val (.ref b481), .val (.int (poV Cq503 (4 : Int32))), .val (.int (poV Cq504 (3 : Int32))), .val (.int (poV Cq505 (2 : Int32))), .val (.int (poV Cq506 (1 : Int32))), .val (.int (poV Cq507 (0 : Int32))), .val (.int (eF (4 : Int32) per l1 m1 ph1 w1 l2 m2 ph2 w2)), .val (.int (eF (3 : Int32) per l1 m1 ph1 w1 l2 m2 ph2 w2)), .unset, .unset, .unset] [(.int (eF (2 : Int32) per l1 m1 ph1 w1 l2 m2 ph2 w2))])) := by
                    intro T511 lj511 X511 N511 Z511 V511
                    show OGets p e below _ (T511.setTop (mkF m 394 #[.val (.int p0), .val (.int p1), .val (.int p2), .val (.int p3), .val (.int p4), .val (.int p5), .val (.int per), .val (.int l1), .val (.int m1), .val (.int ph1), .val (.int w1), .val (.int l2), .val (.int m2), .val (.int ph2), .val (.int w2), .val (.ref b481), .val (.int (poV Cq503 (4 : Int32))), .val (.int (poV Cq504 (3 : Int32))), .val (.int (poV Cq505 (2 : Int32))), .val (.int (poV Cq506 (1 : Int32))), .val (.int (poV Cq507 (0 : Int32))), .val (.int (eF (4 : Int32) per l1 m1 ph1 w1 l2 m2 ph2 w2)), .val (.int (eF (3 : Int32) per l1 m1 ph1 w1 l2 m2 ph2 w2)), .unset, .unset, .unset] [(.int (eF (2 : Int32) per l1 m1 ph1 w1 l2 m2 ph2 w2))]))
                    refine OGets.step (fun _ => XS.istore X511.here hx rfl (hb hby at_394) rfl (l' := #[.val (.int p0), .val (.int p1), .val (.int p2), .val (.int p3), .val (.int p4), .val (.int p5), .val (.int per), .val (.int l1), .val (.int m1), .val (.int ph1), .val (.int w1), .val (.int l2), .val (.int m2), .val (.int ph2), .val (.int w2), .val (.ref b481), .val (.int (poV Cq503 (4 : Int32))), .val (.int (poV Cq504 (3 : Int32))), .val (.int (poV Cq505 (2 : Int32))), .val (.int (poV Cq506 (1 : Int32))), .val (.int (poV Cq507 (0 : Int32))), .val (.int (eF (4 : Int32) per l1 m1 ph1 w1 l2 m2 ph2 w2)), .val (.int (eF (3 : Int32) per l1 m1 ph1 w1 l2 m2 ph2 w2)), .val (.int (eF (2 : Int32) per l1 m1 ph1 w1 l2 m2 ph2 w2)), .unset, .unset]) rfl) ?_
                    have K512 : ∀ (T512 : State) (lj512 : List Loc), Stand p l e room_1 s m #[(.int p0), (.int p1), (.int p2), (.int p3), (.int p4), (.int p5)] below meth c T512 lj512 7 30 → Fr n0 lj512 → n0 ≤ T512.heap.size → OView Z n0 T512.heap (oC b481 [(.int per), (.ref au482), (.ref ac482), .null, .null, (.int 0)] :: oA ac482 Cq508 :: oX ax503 [(.ref b481), (.ref b501)] :: oS b501 [(.int l2), (.int m2), (.int per), (.int ph2), (.int w2)] :: oX ax500 [(.ref b481), (.ref b498)] :: oS b498 [(.int l1), (.int m1), (.int per), (.int ph1), (.int w1)] :: oA au482 Uq497 :: []) → OGets p e below (OLeaves s (Q_law Z p0 p1 p2 p3 p4 p5 h0 n0 ) 32 192) (T512.setTop (mkF m 435 #[.val (.int p0), .val (.int p1), .val (.int p2), .val (.int p3), .val (.int p4), .val (.int p5), .val (.int per), .val (.int l1), .val (.int m1), .val (.int ph1), .val (.int w1), .val (.int l2), .val (.int m2), .val (.int ph2), .val (.int w2), .val (.ref b481), .val (.int (poV Cq503 (4 : Int32))), .val (.int (poV Cq504 (3 : Int32))), .val (.int (poV Cq505 (2 : Int32))), .val (.int (poV Cq506 (1 : Int32))), .val (.int (poV Cq507 (0 : Int32))), .val (.int (eF (4 : Int32) per l1 m1 ph1 w1 l2 m2 ph2 w2)), .val (.int (eF (3 : Int32) per l1 m1 ph1 w1 l2 m2 ph2 w2)), .val (.int (eF (2 : Int32) per l1 m1 ph1 w1 l2 m2 ph2 w2)), .unset, .unset] [(.int (eF (1 : Int32) per l1 m1 ph1 w1 l2 m2 ph2 w2))])) := by
                      intro T512 lj512 X512 N512 Z512 V512
                      show OGets p e below _ (T512.setTop (mkF m 435 #[.val (.int p0), .val (.int p1), .val (.int p2), .val (.int p3), .val (.int p4), .val (.int p5), .val (.int per), .val (.int l1), .val (.int m1), .val (.int ph1), .val (.int w1), .val (.int l2), .val (.int m2), .val (.int ph2), .val (.int w2), .val (.ref b481), .val (.int (poV Cq503 (4 : Int32))), .val (.int (poV Cq504 (3 : Int32))), .val (.int (poV Cq505 (2 : Int32))), .val (.int (poV Cq506 (1 : Int32))), .val (.int (poV Cq507 (0 : Int32))), .val (.int (eF (4 : Int32) per l1 m1 ph1 w1 l2 m2 ph2 w2)), .val (.int (eF (3 : Int32) per l1 m1 ph1 w1 l2 m2 ph2 w2)), .val (.int (eF (2 : Int32) per l1 m1 ph1 w1 l2 m2 ph2 w2)), .unset, .unset] [(.int (eF (1 : Int32) per l1 m1 ph1 w1 l2 m2 ph2 w2))]))
                      refine OGets.step (fun _ => XS.istore X512.here hx rfl (hb hby at_435) rfl (l' := #[.val (.int p0), .val (.int p1), .val (.int p2), .val (.int p3), .val (.int p4), .val (.int p5), .val (.int per), .val (.int l1), .val (.int m1), .val (.int ph1), .val (.int w1), .val (.int l2), .val (.int m2), .val (.int ph2), .val (.int w2), .val (.ref b481), .val (.int (poV Cq503 (4 : Int32))), .val (.int (poV Cq504 (3 : Int32))), .val (.int (poV Cq505 (2 : Int32))), .val (.int (poV Cq506 (1 : Int32))), .val (.int (poV Cq507 (0 : Int32))), .val (.int (eF (4 : Int32) per l1 m1 ph1 w1 l2 m2 ph2 w2)), .val (.int (eF (3 : Int32) per l1 m1 ph1 w1 l2 m2 ph2 w2)), .val (.int (eF (2 : Int32) per l1 m1 ph1 w1 l2 m2 ph2 w2)), .val (.int (eF (1 : Int32) per l1 m1 ph1 w1 l2 m2 ph2 w2)), .unset]) rfl) ?_
                      have K513 : ∀ (T513 : State) (lj513 : List Loc), Stand p l e room_1 s m #[(.int p0), (.int p1), (.int p2), (.int p3), (.int p4), (.int p5)] below meth c T513 lj513 7 30 → Fr n0 lj513 → n0 ≤ T513.heap.size → OView Z n0 T513.heap (oC b481 [(.int per), (.ref au482), (.ref ac482), .null, .null, (.int 0)] :: oA ac482 Cq508 :: oX ax503 [(.ref b481), (.ref b501)] :: oS b501 [(.int l2), (.int m2), (.int per), (.int ph2), (.int w2)] :: oX ax500 [(.ref b481), (.ref b498)] :: oS b498 [(.int l1), (.int m1), (.int per), (.int ph1), (.int w1)] :: oA au482 Uq497 :: []) → OGets p e below (OLeaves s (Q_law Z p0 p1 p2 p3 p4 p5 h0 n0 ) 32 192) (T513.setTop (mkF m 476 #[.val (.int p0), .val (.int p1), .val (.int p2), .val (.int p3), .val (.int p4), .val (.int p5), .val (.int per), .val (.int l1), .val (.int m1), .val (.int ph1), .val (.int w1), .val (.int l2), .val (.int m2), .val (.int ph2), .val (.int w2), .val (.ref b481), .val (.int (poV Cq503 (4 : Int32))), .val (.int (poV Cq504 (3 : Int32))), .val (.int (poV Cq505 (2 : Int32))), .val (.int (poV Cq506 (1 : Int32))), .val (.int (poV Cq507 (0 : Int32))), .val (.int (eF (4 : Int32) per l1 m1 ph1 w1 l2 m2 ph2 w2)), .val (.int (eF (3 : Int32) per l1 m1 ph1 w1 l2 m2 ph2 w2)), .val (.int (eF (2 : Int32) per l1 m1 ph1 w1 l2 m2 ph2 w2)), .val (.int (eF (1 : Int32) per l1 m1 ph1 w1 l2 m2 ph2 w2)), .unset] [(.int (eF (0 : Int32) per l1 m1 ph1 w1 l2 m2 ph2 w2))])) := by
                        intro T513 lj513 X513 N513 Z513 V513
                        show OGets p e below _ (T513.setTop (mkF m 476 #[.val (.int p0), .val (.int p1), .val (.int p2), .val (.int p3), .val (.int p4), .val (.int p5), .val (.int per), .val (.int l1), .val (.int m1), .val (.int ph1), .val (.int w1), .val (.int l2), .val (.int m2), .val (.int ph2), .val (.int w2), .val (.ref b481), .val (.int (poV Cq503 (4 : Int32))), .val (.int (poV Cq504 (3 : Int32))), .val (.int (poV Cq505 (2 : Int32))), .val (.int (poV Cq506 (1 : Int32))), .val (.int (poV Cq507 (0 : Int32))), .val (.int (eF (4 : Int32) per l1 m1 ph1 w1 l2 m2 ph2 w2)), .val (.int (eF (3 : Int32) per l1 m1 ph1 w1 l2 m2 ph2 w2)), .val (.int (eF (2 : Int32) per l1 m1 ph1 w1 l2 m2 ph2 w2)), .val (.int (eF (1 : Int32) per l1 m1 ph1 w1 l2 m2 ph2 w2)), .unset] [(.int (eF (0 : Int32) per l1 m1 ph1 w1 l2 m2 ph2 w2))]))
                        refine OGets.step (fun _ => XS.istore X513.here hx rfl (hb hby at_476) rfl (l' := #[.val (.int p0), .val (.int p1), .val (.int p2), .val (.int p3), .val (.int p4), .val (.int p5), .val (.int per), .val (.int l1), .val (.int m1), .val (.int ph1), .val (.int w1), .val (.int l2), .val (.int m2), .val (.int ph2), .val (.int w2), .val (.ref b481), .val (.int (poV Cq503 (4 : Int32))), .val (.int (poV Cq504 (3 : Int32))), .val (.int (poV Cq505 (2 : Int32))), .val (.int (poV Cq506 (1 : Int32))), .val (.int (poV Cq507 (0 : Int32))), .val (.int (eF (4 : Int32) per l1 m1 ph1 w1 l2 m2 ph2 w2)), .val (.int (eF (3 : Int32) per l1 m1 ph1 w1 l2 m2 ph2 w2)), .val (.int (eF (2 : Int32) per l1 m1 ph1 w1 l2 m2 ph2 w2)), .val (.int (eF (1 : Int32) per l1 m1 ph1 w1 l2 m2 ph2 w2)), .val (.int (eF (0 : Int32) per l1 m1 ph1 w1 l2 m2 ph2 w2))]) rfl) ?_
                        refine OGets.step (fun _ => XS.aload X513.here hx rfl (hb hby at_478) rfl rfl) ?_
                        obtain ⟨cq514, kq514, q514a, q514b, q514c⟩ := isOf hZ rfl (V513.exa 0 rfl)
                        obtain ⟨_, _, ⟨T514, L514, k514, n514⟩, -, X514, ⟨Lc514, hQ514, l514, y514, z514⟩, st514⟩ := X513.virtualBack hx (y := (⟨"com/example/pelt/pelt/StackCounts", "height", "()I"⟩ : MethodName)) (z := (⟨"com/example/pelt/pelt/StackCounts", "height", "()I"⟩ : MethodName)) hown (mvT hZ (hw _ (List.mem_of_getElem? (i := 81) rfl))) (mvT hZ (hw _ (List.mem_of_getElem? (i := 82) rfl))) (notFace_of_selects (args := #[]) (mvT hZ (hw _ (List.mem_of_getElem? (i := 84) rfl)))) (mvT hZ (hw _ (List.mem_of_getElem? (i := 84) rfl))) (mvT hZ (hw _ (List.mem_of_getElem? (i := 83) rfl))) (by decide) (backOf (W := 0) (rm_hgt l Z a0 hw [] b481 au482 ac482 .null .null per (0 : Int32) T513.heap n0 (oA ac482 Cq508 :: oX ax503 [(.ref b481), (.ref b501)] :: oS b501 [(.int l2), (.int m2), (.int per), (.int ph2), (.int w2)] :: oX ax500 [(.ref b481), (.ref b498)] :: oS b498 [(.int l1), (.int m1), (.int per), (.int ph1), (.int w1)] :: oA au482 Uq497 :: []) Z513  V513) hZ (hw _ (List.mem_of_getElem? (i := 85) rfl)) (hw _ (List.mem_of_getElem? (i := 4) rfl)) (by decide) (by decide)) q514a q514c (g := (mkF m 480 #[.val (.int p0), .val (.int p1), .val (.int p2), .val (.int p3), .val (.int p4), .val (.int p5), .val (.int per), .val (.int l1), .val (.int m1), .val (.int ph1), .val (.int w1), .val (.int l2), .val (.int m2), .val (.int ph2), .val (.int w2), .val (.ref b481), .val (.int (poV Cq503 (4 : Int32))), .val (.int (poV Cq504 (3 : Int32))), .val (.int (poV Cq505 (2 : Int32))), .val (.int (poV Cq506 (1 : Int32))), .val (.int (poV Cq507 (0 : Int32))), .val (.int (eF (4 : Int32) per l1 m1 ph1 w1 l2 m2 ph2 w2)), .val (.int (eF (3 : Int32) per l1 m1 ph1 w1 l2 m2 ph2 w2)), .val (.int (eF (2 : Int32) per l1 m1 ph1 w1 l2 m2 ph2 w2)), .val (.int (eF (1 : Int32) per l1 m1 ph1 w1 l2 m2 ph2 w2)), .val (.int (eF (0 : Int32) per l1 m1 ph1 w1 l2 m2 ph2 w2))] [(.ref b481)])) rfl (by rw [hml]; rfl) (Steps.refl _) (argsL := []) (rest := []) (lenOf pd_5 rfl) rfl (by show 2 * 0 + _ ≤ _; exact Nat.le_of_eq rfl) (hb hby at_480) (fun _ _ => ⟨rfl, rfl, Nat.le_of_ble_eq_true rfl, Nat.le_of_ble_eq_true rfl⟩)
                        dsimp only [Pt.U, Pt.locs, Pt.cells, Pt.slots] at X514 l514 y514 z514 st514 hQ514
                        rw [l514, y514, z514] at X514
                        obtain ⟨rfl, rfl, e514⟩ := hQ514
                        have N514 := Fr.app N513 (Fr.nil n0)
                        refine OGets.after st514 ?_
                        refine OGets.step (fun _ => XS.ifNo X514.here hx rfl (hb hby at_483) rfl ((if0 _ _).trans (teq (by decide : (0 : Int32) = (0 : Int32))).2)) ?_
                        have hpl0 : poV Cq503 (4 : Int32) = (eF (4 : Int32) per l1 m1 ph1 w1 l2 m2 ph2 w2) := by rw [hCq503, hCq500]; exact own_valN 4 D1 D2 hN
                        have hpl1 : poV Cq504 (3 : Int32) = (eF (3 : Int32) per l1 m1 ph1 w1 l2 m2 ph2 w2) := by rw [hCq504, hCq503, hCq500]; exact own_valN 3 D1 D2 hN
                        have hpl2 : poV Cq505 (2 : Int32) = (eF (2 : Int32) per l1 m1 ph1 w1 l2 m2 ph2 w2) := by rw [hCq505, hCq504, hCq503, hCq500]; exact own_valN 2 D1 D2 hN
                        have hpl3 : poV Cq506 (1 : Int32) = (eF (1 : Int32) per l1 m1 ph1 w1 l2 m2 ph2 w2) := by rw [hCq506, hCq505, hCq504, hCq503, hCq500]; exact own_valN 1 D1 D2 hN
                        have hpl4 : poV Cq507 (0 : Int32) = (eF (0 : Int32) per l1 m1 ph1 w1 l2 m2 ph2 w2) := by rw [hCq507, hCq506, hCq505, hCq504, hCq503, hCq500]; exact own_valN 0 D1 D2 hN
                        show OGets p e below _ (T514.setTop (mkF m 486 #[.val (.int p0), .val (.int p1), .val (.int p2), .val (.int p3), .val (.int p4), .val (.int p5), .val (.int per), .val (.int l1), .val (.int m1), .val (.int ph1), .val (.int w1), .val (.int l2), .val (.int m2), .val (.int ph2), .val (.int w2), .val (.ref b481), .val (.int (poV Cq503 (4 : Int32))), .val (.int (poV Cq504 (3 : Int32))), .val (.int (poV Cq505 (2 : Int32))), .val (.int (poV Cq506 (1 : Int32))), .val (.int (poV Cq507 (0 : Int32))), .val (.int (eF (4 : Int32) per l1 m1 ph1 w1 l2 m2 ph2 w2)), .val (.int (eF (3 : Int32) per l1 m1 ph1 w1 l2 m2 ph2 w2)), .val (.int (eF (2 : Int32) per l1 m1 ph1 w1 l2 m2 ph2 w2)), .val (.int (eF (1 : Int32) per l1 m1 ph1 w1 l2 m2 ph2 w2)), .val (.int (eF (0 : Int32) per l1 m1 ph1 w1 l2 m2 ph2 w2))] []))
                        refine OGets.step (fun _ => XS.iload X514.here hx rfl (hb hby at_486) rfl) ?_
                        refine OGets.step (fun _ => XS.iload X514.here hx rfl (hb hby at_488) rfl) ?_
                        refine OGets.step (fun _ => XS.icmpNo X514.here hx rfl (hb hby at_490) rfl (teq (hpl0 : (poV Cq503 (4 : Int32)) = (eF (4 : Int32) per l1 m1 ph1 w1 l2 m2 ph2 w2))).2) ?_
                        refine OGets.step (fun _ => XS.iload X514.here hx rfl (hb hby at_493) rfl) ?_
                        refine OGets.step (fun _ => XS.iload X514.here hx rfl (hb hby at_495) rfl) ?_
                        refine OGets.step (fun _ => XS.icmpNo X514.here hx rfl (hb hby at_497) rfl (teq (hpl1 : (poV Cq504 (3 : Int32)) = (eF (3 : Int32) per l1 m1 ph1 w1 l2 m2 ph2 w2))).2) ?_
                        refine OGets.step (fun _ => XS.iload X514.here hx rfl (hb hby at_500) rfl) ?_
                        show OGets p e below _ (T514.setTop (mkF m 502 #[.val (.int p0), .val (.int p1), .val (.int p2), .val (.int p3), .val (.int p4), .val (.int p5), .val (.int per), .val (.int l1), .val (.int m1), .val (.int ph1), .val (.int w1), .val (.int l2), .val (.int m2), .val (.int ph2), .val (.int w2), .val (.ref b481), .val (.int (poV Cq503 (4 : Int32))), .val (.int (poV Cq504 (3 : Int32))), .val (.int (poV Cq505 (2 : Int32))), .val (.int (poV Cq506 (1 : Int32))), .val (.int (poV Cq507 (0 : Int32))), .val (.int (eF (4 : Int32) per l1 m1 ph1 w1 l2 m2 ph2 w2)), .val (.int (eF (3 : Int32) per l1 m1 ph1 w1 l2 m2 ph2 w2)), .val (.int (eF (2 : Int32) per l1 m1 ph1 w1 l2 m2 ph2 w2)), .val (.int (eF (1 : Int32) per l1 m1 ph1 w1 l2 m2 ph2 w2)), .val (.int (eF (0 : Int32) per l1 m1 ph1 w1 l2 m2 ph2 w2))] [(.int (poV Cq505 (2 : Int32)))]))
                        refine OGets.step (fun _ => XS.iload X514.here hx rfl (hb hby at_502) rfl) ?_
                        refine OGets.step (fun _ => XS.icmpNo X514.here hx rfl (hb hby at_504) rfl (teq (hpl2 : (poV Cq505 (2 : Int32)) = (eF (2 : Int32) per l1 m1 ph1 w1 l2 m2 ph2 w2))).2) ?_
                        refine OGets.step (fun _ => XS.iload X514.here hx rfl (hb hby at_507) rfl) ?_
                        refine OGets.step (fun _ => XS.iload X514.here hx rfl (hb hby at_509) rfl) ?_
                        refine OGets.step (fun _ => XS.icmpNo X514.here hx rfl (hb hby at_511) rfl (teq (hpl3 : (poV Cq506 (1 : Int32)) = (eF (1 : Int32) per l1 m1 ph1 w1 l2 m2 ph2 w2))).2) ?_
                        refine OGets.step (fun _ => XS.iload X514.here hx rfl (hb hby at_514) rfl) ?_
                        refine OGets.step (fun _ => XS.iload X514.here hx rfl (hb hby at_516) rfl) ?_
                        show OGets p e below _ (T514.setTop (mkF m 518 #[.val (.int p0), .val (.int p1), .val (.int p2), .val (.int p3), .val (.int p4), .val (.int p5), .val (.int per), .val (.int l1), .val (.int m1), .val (.int ph1), .val (.int w1), .val (.int l2), .val (.int m2), .val (.int ph2), .val (.int w2), .val (.ref b481), .val (.int (poV Cq503 (4 : Int32))), .val (.int (poV Cq504 (3 : Int32))), .val (.int (poV Cq505 (2 : Int32))), .val (.int (poV Cq506 (1 : Int32))), .val (.int (poV Cq507 (0 : Int32))), .val (.int (eF (4 : Int32) per l1 m1 ph1 w1 l2 m2 ph2 w2)), .val (.int (eF (3 : Int32) per l1 m1 ph1 w1 l2 m2 ph2 w2)), .val (.int (eF (2 : Int32) per l1 m1 ph1 w1 l2 m2 ph2 w2)), .val (.int (eF (1 : Int32) per l1 m1 ph1 w1 l2 m2 ph2 w2)), .val (.int (eF (0 : Int32) per l1 m1 ph1 w1 l2 m2 ph2 w2))] [(.int (eF (0 : Int32) per l1 m1 ph1 w1 l2 m2 ph2 w2)), (.int (poV Cq507 (0 : Int32)))]))
                        refine OGets.step (fun _ => XS.icmpNo X514.here hx rfl (hb hby at_518) rfl (teq (hpl4 : (poV Cq507 (0 : Int32)) = (eF (0 : Int32) per l1 m1 ph1 w1 l2 m2 ph2 w2))).2) ?_
                        refine OGets.step (fun _ => XS.iconst X514.here hx rfl (hb hby at_521)) ?_
                        refine OGets.step (fun _ => XS.goto X514.here hx rfl (pc0 := 522) (pc' := 526) rfl (hb hby at_522) (by decide) (by decide)) ?_
                        refine OGets.retN X514 hx hlk (t := .boolean) Bd.returns (by simp) (hb hby at_526) (Nat.le_of_ble_eq_true rfl) (Nat.le_of_ble_eq_true rfl) ?_
                        exact ⟨rfl, N514⟩
                      refine OGets.step (fun _ => XS.iconst X512.here hx rfl (hb hby at_437)) ?_
                      refine OGets.step (fun _ => XS.iload X512.here hx rfl (hb hby at_438) rfl) ?_
                      refine OGets.step (fun _ => XS.iload X512.here hx rfl (hb hby at_440) rfl) ?_
                      refine OGets.step (fun _ => XS.iload X512.here hx rfl (hb hby at_442) rfl) ?_
                      refine OGets.step (fun _ => XS.iload X512.here hx rfl (hb hby at_444) rfl) ?_
                      refine OGets.step (fun _ => XS.iload X512.here hx rfl (hb hby at_446) rfl) ?_
                      show OGets p e below _ (T512.setTop (mkF m 448 #[.val (.int p0), .val (.int p1), .val (.int p2), .val (.int p3), .val (.int p4), .val (.int p5), .val (.int per), .val (.int l1), .val (.int m1), .val (.int ph1), .val (.int w1), .val (.int l2), .val (.int m2), .val (.int ph2), .val (.int w2), .val (.ref b481), .val (.int (poV Cq503 (4 : Int32))), .val (.int (poV Cq504 (3 : Int32))), .val (.int (poV Cq505 (2 : Int32))), .val (.int (poV Cq506 (1 : Int32))), .val (.int (poV Cq507 (0 : Int32))), .val (.int (eF (4 : Int32) per l1 m1 ph1 w1 l2 m2 ph2 w2)), .val (.int (eF (3 : Int32) per l1 m1 ph1 w1 l2 m2 ph2 w2)), .val (.int (eF (2 : Int32) per l1 m1 ph1 w1 l2 m2 ph2 w2)), .val (.int (eF (1 : Int32) per l1 m1 ph1 w1 l2 m2 ph2 w2)), .unset] [(.int w1), (.int ph1), (.int per), (.int m1), (.int l1), (.int 0)]))
                      obtain ⟨_, _, ⟨T521, L521, k521, n521⟩, -, X521, ⟨Lc521, hQ521, l521, y521, z521⟩, st521⟩ := Jvm.LawKit.callS X512 hx (y := (⟨"com/example/pelt/pelt/StackCountsPopPinLaw", "held", "(IIIIII)Z"⟩ : MethodName)) hown (mvT hZ (hw _ (List.mem_of_getElem? (i := 77) rfl))) (mvT hZ (hw _ (List.mem_of_getElem? (i := 78) rfl))) (mvT hZ (hw _ (List.mem_of_getElem? (i := 79) rfl))) (mvT hZ (hw _ (List.mem_of_getElem? (i := 80) rfl))) (by decide) (backOf (W := 0) (rm_held l Z a0 hw [] (0 : Int32) l1 m1 per ph1 w1 T512.heap n0  Z512 (own_nz hP)) hZ (hw _ (List.mem_of_getElem? (i := 80) rfl)) (hw _ (List.mem_of_getElem? (i := 79) rfl)) (by decide) (by decide)) (g := (mkF m 448 #[.val (.int p0), .val (.int p1), .val (.int p2), .val (.int p3), .val (.int p4), .val (.int p5), .val (.int per), .val (.int l1), .val (.int m1), .val (.int ph1), .val (.int w1), .val (.int l2), .val (.int m2), .val (.int ph2), .val (.int w2), .val (.ref b481), .val (.int (poV Cq503 (4 : Int32))), .val (.int (poV Cq504 (3 : Int32))), .val (.int (poV Cq505 (2 : Int32))), .val (.int (poV Cq506 (1 : Int32))), .val (.int (poV Cq507 (0 : Int32))), .val (.int (eF (4 : Int32) per l1 m1 ph1 w1 l2 m2 ph2 w2)), .val (.int (eF (3 : Int32) per l1 m1 ph1 w1 l2 m2 ph2 w2)), .val (.int (eF (2 : Int32) per l1 m1 ph1 w1 l2 m2 ph2 w2)), .val (.int (eF (1 : Int32) per l1 m1 ph1 w1 l2 m2 ph2 w2)), .unset] [(.int w1), (.int ph1), (.int per), (.int m1), (.int l1), (.int 0)])) rfl (by rw [hml]; rfl) (argsL := [(.int 0), (.int l1), (.int m1), (.int per), (.int ph1), (.int w1)]) (rest := []) (lenOf pd_18 rfl) rfl (by show 2 * 0 + _ ≤ _; exact Nat.le_of_eq rfl) (hb hby at_448) (fun _ _ => ⟨rfl, rfl, Nat.le_of_ble_eq_true rfl, Nat.le_of_ble_eq_true rfl⟩)
                      dsimp only [Pt.U, Pt.locs, Pt.cells, Pt.slots] at X521 l521 y521 z521 st521 hQ521
                      rw [l521, y521, z521] at X521
                      obtain ⟨rfl, rfl, e521⟩ := hQ521
                      have N521 := Fr.app N512 (Fr.nil n0)
                      refine OGets.step st521 ?_
                      by_cases hc451_522 : (f_held (0 : Int32) l1 m1 per ph1 w1) = (0 : Int32)
                      · refine OGets.step (fun _ => XS.ifNo X521.here hx rfl (hb hby at_451) rfl ((if0 _ _).trans (teq hc451_522).2)) ?_
                        show OGets p e below _ (T521.setTop (mkF m 454 #[.val (.int p0), .val (.int p1), .val (.int p2), .val (.int p3), .val (.int p4), .val (.int p5), .val (.int per), .val (.int l1), .val (.int m1), .val (.int ph1), .val (.int w1), .val (.int l2), .val (.int m2), .val (.int ph2), .val (.int w2), .val (.ref b481), .val (.int (poV Cq503 (4 : Int32))), .val (.int (poV Cq504 (3 : Int32))), .val (.int (poV Cq505 (2 : Int32))), .val (.int (poV Cq506 (1 : Int32))), .val (.int (poV Cq507 (0 : Int32))), .val (.int (eF (4 : Int32) per l1 m1 ph1 w1 l2 m2 ph2 w2)), .val (.int (eF (3 : Int32) per l1 m1 ph1 w1 l2 m2 ph2 w2)), .val (.int (eF (2 : Int32) per l1 m1 ph1 w1 l2 m2 ph2 w2)), .val (.int (eF (1 : Int32) per l1 m1 ph1 w1 l2 m2 ph2 w2)), .unset] []))
                        refine OGets.step (fun _ => XS.iconst X521.here hx rfl (hb hby at_454)) ?_
                        refine OGets.step (fun _ => XS.iload X521.here hx rfl (hb hby at_455) rfl) ?_
                        refine OGets.step (fun _ => XS.iload X521.here hx rfl (hb hby at_457) rfl) ?_
                        refine OGets.step (fun _ => XS.iload X521.here hx rfl (hb hby at_459) rfl) ?_
                        refine OGets.step (fun _ => XS.iload X521.here hx rfl (hb hby at_461) rfl) ?_
                        refine OGets.step (fun _ => XS.iload X521.here hx rfl (hb hby at_463) rfl) ?_
                        obtain ⟨_, _, ⟨T523, L523, k523, n523⟩, -, X523, ⟨Lc523, hQ523, l523, y523, z523⟩, st523⟩ := Jvm.LawKit.callS X521 hx (y := (⟨"com/example/pelt/pelt/StackCountsPopPinLaw", "held", "(IIIIII)Z"⟩ : MethodName)) hown (mvT hZ (hw _ (List.mem_of_getElem? (i := 77) rfl))) (mvT hZ (hw _ (List.mem_of_getElem? (i := 78) rfl))) (mvT hZ (hw _ (List.mem_of_getElem? (i := 79) rfl))) (mvT hZ (hw _ (List.mem_of_getElem? (i := 80) rfl))) (by decide) (backOf (W := 0) (rm_held l Z a0 hw [] (0 : Int32) l2 m2 per ph2 w2 T512.heap n0  Z512 (own_nz hP)) hZ (hw _ (List.mem_of_getElem? (i := 80) rfl)) (hw _ (List.mem_of_getElem? (i := 79) rfl)) (by decide) (by decide)) (g := (mkF m 465 #[.val (.int p0), .val (.int p1), .val (.int p2), .val (.int p3), .val (.int p4), .val (.int p5), .val (.int per), .val (.int l1), .val (.int m1), .val (.int ph1), .val (.int w1), .val (.int l2), .val (.int m2), .val (.int ph2), .val (.int w2), .val (.ref b481), .val (.int (poV Cq503 (4 : Int32))), .val (.int (poV Cq504 (3 : Int32))), .val (.int (poV Cq505 (2 : Int32))), .val (.int (poV Cq506 (1 : Int32))), .val (.int (poV Cq507 (0 : Int32))), .val (.int (eF (4 : Int32) per l1 m1 ph1 w1 l2 m2 ph2 w2)), .val (.int (eF (3 : Int32) per l1 m1 ph1 w1 l2 m2 ph2 w2)), .val (.int (eF (2 : Int32) per l1 m1 ph1 w1 l2 m2 ph2 w2)), .val (.int (eF (1 : Int32) per l1 m1 ph1 w1 l2 m2 ph2 w2)), .unset] [(.int w2), (.int ph2), (.int per), (.int m2), (.int l2), (.int 0)])) rfl (by rw [hml]; rfl) (argsL := [(.int 0), (.int l2), (.int m2), (.int per), (.int ph2), (.int w2)]) (rest := []) (lenOf pd_18 rfl) rfl (by show 2 * 0 + _ ≤ _; exact Nat.le_of_eq rfl) (hb hby at_465) (fun _ _ => ⟨rfl, e521, Nat.le_of_ble_eq_true rfl, Nat.le_of_ble_eq_true rfl⟩)
                        dsimp only [Pt.U, Pt.locs, Pt.cells, Pt.slots] at X523 l523 y523 z523 st523 hQ523
                        rw [l523, y523, z523] at X523
                        obtain ⟨rfl, rfl, e523⟩ := hQ523
                        have N523 := Fr.app N521 (Fr.nil n0)
                        refine OGets.step st523 ?_
                        show OGets p e below _ (T523.setTop (mkF m 468 #[.val (.int p0), .val (.int p1), .val (.int p2), .val (.int p3), .val (.int p4), .val (.int p5), .val (.int per), .val (.int l1), .val (.int m1), .val (.int ph1), .val (.int w1), .val (.int l2), .val (.int m2), .val (.int ph2), .val (.int w2), .val (.ref b481), .val (.int (poV Cq503 (4 : Int32))), .val (.int (poV Cq504 (3 : Int32))), .val (.int (poV Cq505 (2 : Int32))), .val (.int (poV Cq506 (1 : Int32))), .val (.int (poV Cq507 (0 : Int32))), .val (.int (eF (4 : Int32) per l1 m1 ph1 w1 l2 m2 ph2 w2)), .val (.int (eF (3 : Int32) per l1 m1 ph1 w1 l2 m2 ph2 w2)), .val (.int (eF (2 : Int32) per l1 m1 ph1 w1 l2 m2 ph2 w2)), .val (.int (eF (1 : Int32) per l1 m1 ph1 w1 l2 m2 ph2 w2)), .unset] [(.int (f_held (0 : Int32) l2 m2 per ph2 w2))]))
                        by_cases hc468_524 : (f_held (0 : Int32) l2 m2 per ph2 w2) = (0 : Int32)
                        · refine OGets.step (fun _ => XS.ifYes X523.here hx rfl (pc0 := 468) (pc' := 475) rfl (hb hby at_468) rfl ((if0 _ _).trans (teq hc468_524).1) (by decide) (by decide)) ?_
                          show OGets p e below _ (T523.setTop (mkF m 475 #[.val (.int p0), .val (.int p1), .val (.int p2), .val (.int p3), .val (.int p4), .val (.int p5), .val (.int per), .val (.int l1), .val (.int m1), .val (.int ph1), .val (.int w1), .val (.int l2), .val (.int m2), .val (.int ph2), .val (.int w2), .val (.ref b481), .val (.int (poV Cq503 (4 : Int32))), .val (.int (poV Cq504 (3 : Int32))), .val (.int (poV Cq505 (2 : Int32))), .val (.int (poV Cq506 (1 : Int32))), .val (.int (poV Cq507 (0 : Int32))), .val (.int (eF (4 : Int32) per l1 m1 ph1 w1 l2 m2 ph2 w2)), .val (.int (eF (3 : Int32) per l1 m1 ph1 w1 l2 m2 ph2 w2)), .val (.int (eF (2 : Int32) per l1 m1 ph1 w1 l2 m2 ph2 w2)), .val (.int (eF (1 : Int32) per l1 m1 ph1 w1 l2 m2 ph2 w2)), .unset] []))
                          refine OGets.step (fun _ => XS.iconst X523.here hx rfl (hb hby at_475)) ?_
                          show OGets p e below _ (T523.setTop (mkF m 476 #[.val (.int p0), .val (.int p1), .val (.int p2), .val (.int p3), .val (.int p4), .val (.int p5), .val (.int per), .val (.int l1), .val (.int m1), .val (.int ph1), .val (.int w1), .val (.int l2), .val (.int m2), .val (.int ph2), .val (.int w2), .val (.ref b481), .val (.int (poV Cq503 (4 : Int32))), .val (.int (poV Cq504 (3 : Int32))), .val (.int (poV Cq505 (2 : Int32))), .val (.int (poV Cq506 (1 : Int32))), .val (.int (poV Cq507 (0 : Int32))), .val (.int (eF (4 : Int32) per l1 m1 ph1 w1 l2 m2 ph2 w2)), .val (.int (eF (3 : Int32) per l1 m1 ph1 w1 l2 m2 ph2 w2)), .val (.int (eF (2 : Int32) per l1 m1 ph1 w1 l2 m2 ph2 w2)), .val (.int (eF (1 : Int32) per l1 m1 ph1 w1 l2 m2 ph2 w2)), .unset] [(.int 0)]))
                          have ke : (eF (0 : Int32) per l1 m1 ph1 w1 l2 m2 ph2 w2) = (0 : Int32) := (if_pos hc451_522).trans (if_pos hc468_524)
                          have kr := K513 _ _ X523 N523 (by rw [e523]; exact Z512) (by rw [e523]; exact V512)
                          rw [ke] at kr
                          exact kr
                        · refine OGets.step (fun _ => XS.ifNo X523.here hx rfl (hb hby at_468) rfl ((if0 _ _).trans (feq hc468_524).1)) ?_
                          show OGets p e below _ (T523.setTop (mkF m 471 #[.val (.int p0), .val (.int p1), .val (.int p2), .val (.int p3), .val (.int p4), .val (.int p5), .val (.int per), .val (.int l1), .val (.int m1), .val (.int ph1), .val (.int w1), .val (.int l2), .val (.int m2), .val (.int ph2), .val (.int w2), .val (.ref b481), .val (.int (poV Cq503 (4 : Int32))), .val (.int (poV Cq504 (3 : Int32))), .val (.int (poV Cq505 (2 : Int32))), .val (.int (poV Cq506 (1 : Int32))), .val (.int (poV Cq507 (0 : Int32))), .val (.int (eF (4 : Int32) per l1 m1 ph1 w1 l2 m2 ph2 w2)), .val (.int (eF (3 : Int32) per l1 m1 ph1 w1 l2 m2 ph2 w2)), .val (.int (eF (2 : Int32) per l1 m1 ph1 w1 l2 m2 ph2 w2)), .val (.int (eF (1 : Int32) per l1 m1 ph1 w1 l2 m2 ph2 w2)), .unset] []))
                          refine OGets.step (fun _ => XS.iconst X523.here hx rfl (hb hby at_471)) ?_
                          refine OGets.step (fun _ => XS.goto X523.here hx rfl (pc0 := 472) (pc' := 476) rfl (hb hby at_472) (by decide) (by decide)) ?_
                          show OGets p e below _ (T523.setTop (mkF m 476 #[.val (.int p0), .val (.int p1), .val (.int p2), .val (.int p3), .val (.int p4), .val (.int p5), .val (.int per), .val (.int l1), .val (.int m1), .val (.int ph1), .val (.int w1), .val (.int l2), .val (.int m2), .val (.int ph2), .val (.int w2), .val (.ref b481), .val (.int (poV Cq503 (4 : Int32))), .val (.int (poV Cq504 (3 : Int32))), .val (.int (poV Cq505 (2 : Int32))), .val (.int (poV Cq506 (1 : Int32))), .val (.int (poV Cq507 (0 : Int32))), .val (.int (eF (4 : Int32) per l1 m1 ph1 w1 l2 m2 ph2 w2)), .val (.int (eF (3 : Int32) per l1 m1 ph1 w1 l2 m2 ph2 w2)), .val (.int (eF (2 : Int32) per l1 m1 ph1 w1 l2 m2 ph2 w2)), .val (.int (eF (1 : Int32) per l1 m1 ph1 w1 l2 m2 ph2 w2)), .unset] [(.int 1)]))
                          have ke : (eF (0 : Int32) per l1 m1 ph1 w1 l2 m2 ph2 w2) = (1 : Int32) := (if_pos hc451_522).trans (if_neg hc468_524)
                          have kr := K513 _ _ X523 N523 (by rw [e523]; exact Z512) (by rw [e523]; exact V512)
                          rw [ke] at kr
                          exact kr
                      · refine OGets.step (fun _ => XS.ifYes X521.here hx rfl (pc0 := 451) (pc' := 471) rfl (hb hby at_451) rfl ((if0 _ _).trans (feq hc451_522).2) (by decide) (by decide)) ?_
                        show OGets p e below _ (T521.setTop (mkF m 471 #[.val (.int p0), .val (.int p1), .val (.int p2), .val (.int p3), .val (.int p4), .val (.int p5), .val (.int per), .val (.int l1), .val (.int m1), .val (.int ph1), .val (.int w1), .val (.int l2), .val (.int m2), .val (.int ph2), .val (.int w2), .val (.ref b481), .val (.int (poV Cq503 (4 : Int32))), .val (.int (poV Cq504 (3 : Int32))), .val (.int (poV Cq505 (2 : Int32))), .val (.int (poV Cq506 (1 : Int32))), .val (.int (poV Cq507 (0 : Int32))), .val (.int (eF (4 : Int32) per l1 m1 ph1 w1 l2 m2 ph2 w2)), .val (.int (eF (3 : Int32) per l1 m1 ph1 w1 l2 m2 ph2 w2)), .val (.int (eF (2 : Int32) per l1 m1 ph1 w1 l2 m2 ph2 w2)), .val (.int (eF (1 : Int32) per l1 m1 ph1 w1 l2 m2 ph2 w2)), .unset] []))
                        refine OGets.step (fun _ => XS.iconst X521.here hx rfl (hb hby at_471)) ?_
                        refine OGets.step (fun _ => XS.goto X521.here hx rfl (pc0 := 472) (pc' := 476) rfl (hb hby at_472) (by decide) (by decide)) ?_
                        show OGets p e below _ (T521.setTop (mkF m 476 #[.val (.int p0), .val (.int p1), .val (.int p2), .val (.int p3), .val (.int p4), .val (.int p5), .val (.int per), .val (.int l1), .val (.int m1), .val (.int ph1), .val (.int w1), .val (.int l2), .val (.int m2), .val (.int ph2), .val (.int w2), .val (.ref b481), .val (.int (poV Cq503 (4 : Int32))), .val (.int (poV Cq504 (3 : Int32))), .val (.int (poV Cq505 (2 : Int32))), .val (.int (poV Cq506 (1 : Int32))), .val (.int (poV Cq507 (0 : Int32))), .val (.int (eF (4 : Int32) per l1 m1 ph1 w1 l2 m2 ph2 w2)), .val (.int (eF (3 : Int32) per l1 m1 ph1 w1 l2 m2 ph2 w2)), .val (.int (eF (2 : Int32) per l1 m1 ph1 w1 l2 m2 ph2 w2)), .val (.int (eF (1 : Int32) per l1 m1 ph1 w1 l2 m2 ph2 w2)), .unset] [(.int 1)]))
                        have ke : (eF (0 : Int32) per l1 m1 ph1 w1 l2 m2 ph2 w2) = (1 : Int32) := if_neg hc451_522
                        have kr := K513 _ _ X521 N521 (by rw [e521]; exact Z512) (by rw [e521]; exact V512)
                        rw [ke] at kr
                        exact kr
                    refine OGets.step (fun _ => XS.iconst X511.here hx rfl (hb hby at_396)) ?_
                    refine OGets.step (fun _ => XS.iload X511.here hx rfl (hb hby at_397) rfl) ?_
                    refine OGets.step (fun _ => XS.iload X511.here hx rfl (hb hby at_399) rfl) ?_
                    refine OGets.step (fun _ => XS.iload X511.here hx rfl (hb hby at_401) rfl) ?_
                    refine OGets.step (fun _ => XS.iload X511.here hx rfl (hb hby at_403) rfl) ?_
                    refine OGets.step (fun _ => XS.iload X511.here hx rfl (hb hby at_405) rfl) ?_
                    show OGets p e below _ (T511.setTop (mkF m 407 #[.val (.int p0), .val (.int p1), .val (.int p2), .val (.int p3), .val (.int p4), .val (.int p5), .val (.int per), .val (.int l1), .val (.int m1), .val (.int ph1), .val (.int w1), .val (.int l2), .val (.int m2), .val (.int ph2), .val (.int w2), .val (.ref b481), .val (.int (poV Cq503 (4 : Int32))), .val (.int (poV Cq504 (3 : Int32))), .val (.int (poV Cq505 (2 : Int32))), .val (.int (poV Cq506 (1 : Int32))), .val (.int (poV Cq507 (0 : Int32))), .val (.int (eF (4 : Int32) per l1 m1 ph1 w1 l2 m2 ph2 w2)), .val (.int (eF (3 : Int32) per l1 m1 ph1 w1 l2 m2 ph2 w2)), .val (.int (eF (2 : Int32) per l1 m1 ph1 w1 l2 m2 ph2 w2)), .unset, .unset] [(.int w1), (.int ph1), (.int per), (.int m1), (.int l1), (.int 1)]))
                    obtain ⟨_, _, ⟨T525, L525, k525, n525⟩, -, X525, ⟨Lc525, hQ525, l525, y525, z525⟩, st525⟩ := Jvm.LawKit.callS X511 hx (y := (⟨"com/example/pelt/pelt/StackCountsPopPinLaw", "held", "(IIIIII)Z"⟩ : MethodName)) hown (mvT hZ (hw _ (List.mem_of_getElem? (i := 77) rfl))) (mvT hZ (hw _ (List.mem_of_getElem? (i := 78) rfl))) (mvT hZ (hw _ (List.mem_of_getElem? (i := 79) rfl))) (mvT hZ (hw _ (List.mem_of_getElem? (i := 80) rfl))) (by decide) (backOf (W := 0) (rm_held l Z a0 hw [] (1 : Int32) l1 m1 per ph1 w1 T511.heap n0  Z511 (own_nz hP)) hZ (hw _ (List.mem_of_getElem? (i := 80) rfl)) (hw _ (List.mem_of_getElem? (i := 79) rfl)) (by decide) (by decide)) (g := (mkF m 407 #[.val (.int p0), .val (.int p1), .val (.int p2), .val (.int p3), .val (.int p4), .val (.int p5), .val (.int per), .val (.int l1), .val (.int m1), .val (.int ph1), .val (.int w1), .val (.int l2), .val (.int m2), .val (.int ph2), .val (.int w2), .val (.ref b481), .val (.int (poV Cq503 (4 : Int32))), .val (.int (poV Cq504 (3 : Int32))), .val (.int (poV Cq505 (2 : Int32))), .val (.int (poV Cq506 (1 : Int32))), .val (.int (poV Cq507 (0 : Int32))), .val (.int (eF (4 : Int32) per l1 m1 ph1 w1 l2 m2 ph2 w2)), .val (.int (eF (3 : Int32) per l1 m1 ph1 w1 l2 m2 ph2 w2)), .val (.int (eF (2 : Int32) per l1 m1 ph1 w1 l2 m2 ph2 w2)), .unset, .unset] [(.int w1), (.int ph1), (.int per), (.int m1), (.int l1), (.int 1)])) rfl (by rw [hml]; rfl) (argsL := [(.int 1), (.int l1), (.int m1), (.int per), (.int ph1), (.int w1)]) (rest := []) (lenOf pd_18 rfl) rfl (by show 2 * 0 + _ ≤ _; exact Nat.le_of_eq rfl) (hb hby at_407) (fun _ _ => ⟨rfl, rfl, Nat.le_of_ble_eq_true rfl, Nat.le_of_ble_eq_true rfl⟩)
                    dsimp only [Pt.U, Pt.locs, Pt.cells, Pt.slots] at X525 l525 y525 z525 st525 hQ525
                    rw [l525, y525, z525] at X525
                    obtain ⟨rfl, rfl, e525⟩ := hQ525
                    have N525 := Fr.app N511 (Fr.nil n0)
                    refine OGets.step st525 ?_
                    by_cases hc410_526 : (f_held (1 : Int32) l1 m1 per ph1 w1) = (0 : Int32)
                    · refine OGets.step (fun _ => XS.ifNo X525.here hx rfl (hb hby at_410) rfl ((if0 _ _).trans (teq hc410_526).2)) ?_
                      show OGets p e below _ (T525.setTop (mkF m 413 #[.val (.int p0), .val (.int p1), .val (.int p2), .val (.int p3), .val (.int p4), .val (.int p5), .val (.int per), .val (.int l1), .val (.int m1), .val (.int ph1), .val (.int w1), .val (.int l2), .val (.int m2), .val (.int ph2), .val (.int w2), .val (.ref b481), .val (.int (poV Cq503 (4 : Int32))), .val (.int (poV Cq504 (3 : Int32))), .val (.int (poV Cq505 (2 : Int32))), .val (.int (poV Cq506 (1 : Int32))), .val (.int (poV Cq507 (0 : Int32))), .val (.int (eF (4 : Int32) per l1 m1 ph1 w1 l2 m2 ph2 w2)), .val (.int (eF (3 : Int32) per l1 m1 ph1 w1 l2 m2 ph2 w2)), .val (.int (eF (2 : Int32) per l1 m1 ph1 w1 l2 m2 ph2 w2)), .unset, .unset] []))
                      refine OGets.step (fun _ => XS.iconst X525.here hx rfl (hb hby at_413)) ?_
                      refine OGets.step (fun _ => XS.iload X525.here hx rfl (hb hby at_414) rfl) ?_
                      refine OGets.step (fun _ => XS.iload X525.here hx rfl (hb hby at_416) rfl) ?_
                      refine OGets.step (fun _ => XS.iload X525.here hx rfl (hb hby at_418) rfl) ?_
                      refine OGets.step (fun _ => XS.iload X525.here hx rfl (hb hby at_420) rfl) ?_
                      refine OGets.step (fun _ => XS.iload X525.here hx rfl (hb hby at_422) rfl) ?_
                      obtain ⟨_, _, ⟨T527, L527, k527, n527⟩, -, X527, ⟨Lc527, hQ527, l527, y527, z527⟩, st527⟩ := Jvm.LawKit.callS X525 hx (y := (⟨"com/example/pelt/pelt/StackCountsPopPinLaw", "held", "(IIIIII)Z"⟩ : MethodName)) hown (mvT hZ (hw _ (List.mem_of_getElem? (i := 77) rfl))) (mvT hZ (hw _ (List.mem_of_getElem? (i := 78) rfl))) (mvT hZ (hw _ (List.mem_of_getElem? (i := 79) rfl))) (mvT hZ (hw _ (List.mem_of_getElem? (i := 80) rfl))) (by decide) (backOf (W := 0) (rm_held l Z a0 hw [] (1 : Int32) l2 m2 per ph2 w2 T511.heap n0  Z511 (own_nz hP)) hZ (hw _ (List.mem_of_getElem? (i := 80) rfl)) (hw _ (List.mem_of_getElem? (i := 79) rfl)) (by decide) (by decide)) (g := (mkF m 424 #[.val (.int p0), .val (.int p1), .val (.int p2), .val (.int p3), .val (.int p4), .val (.int p5), .val (.int per), .val (.int l1), .val (.int m1), .val (.int ph1), .val (.int w1), .val (.int l2), .val (.int m2), .val (.int ph2), .val (.int w2), .val (.ref b481), .val (.int (poV Cq503 (4 : Int32))), .val (.int (poV Cq504 (3 : Int32))), .val (.int (poV Cq505 (2 : Int32))), .val (.int (poV Cq506 (1 : Int32))), .val (.int (poV Cq507 (0 : Int32))), .val (.int (eF (4 : Int32) per l1 m1 ph1 w1 l2 m2 ph2 w2)), .val (.int (eF (3 : Int32) per l1 m1 ph1 w1 l2 m2 ph2 w2)), .val (.int (eF (2 : Int32) per l1 m1 ph1 w1 l2 m2 ph2 w2)), .unset, .unset] [(.int w2), (.int ph2), (.int per), (.int m2), (.int l2), (.int 1)])) rfl (by rw [hml]; rfl) (argsL := [(.int 1), (.int l2), (.int m2), (.int per), (.int ph2), (.int w2)]) (rest := []) (lenOf pd_18 rfl) rfl (by show 2 * 0 + _ ≤ _; exact Nat.le_of_eq rfl) (hb hby at_424) (fun _ _ => ⟨rfl, e525, Nat.le_of_ble_eq_true rfl, Nat.le_of_ble_eq_true rfl⟩)
                      dsimp only [Pt.U, Pt.locs, Pt.cells, Pt.slots] at X527 l527 y527 z527 st527 hQ527
                      rw [l527, y527, z527] at X527
                      obtain ⟨rfl, rfl, e527⟩ := hQ527
                      have N527 := Fr.app N525 (Fr.nil n0)
                      refine OGets.step st527 ?_
                      show OGets p e below _ (T527.setTop (mkF m 427 #[.val (.int p0), .val (.int p1), .val (.int p2), .val (.int p3), .val (.int p4), .val (.int p5), .val (.int per), .val (.int l1), .val (.int m1), .val (.int ph1), .val (.int w1), .val (.int l2), .val (.int m2), .val (.int ph2), .val (.int w2), .val (.ref b481), .val (.int (poV Cq503 (4 : Int32))), .val (.int (poV Cq504 (3 : Int32))), .val (.int (poV Cq505 (2 : Int32))), .val (.int (poV Cq506 (1 : Int32))), .val (.int (poV Cq507 (0 : Int32))), .val (.int (eF (4 : Int32) per l1 m1 ph1 w1 l2 m2 ph2 w2)), .val (.int (eF (3 : Int32) per l1 m1 ph1 w1 l2 m2 ph2 w2)), .val (.int (eF (2 : Int32) per l1 m1 ph1 w1 l2 m2 ph2 w2)), .unset, .unset] [(.int (f_held (1 : Int32) l2 m2 per ph2 w2))]))
                      by_cases hc427_528 : (f_held (1 : Int32) l2 m2 per ph2 w2) = (0 : Int32)
                      · refine OGets.step (fun _ => XS.ifYes X527.here hx rfl (pc0 := 427) (pc' := 434) rfl (hb hby at_427) rfl ((if0 _ _).trans (teq hc427_528).1) (by decide) (by decide)) ?_
                        show OGets p e below _ (T527.setTop (mkF m 434 #[.val (.int p0), .val (.int p1), .val (.int p2), .val (.int p3), .val (.int p4), .val (.int p5), .val (.int per), .val (.int l1), .val (.int m1), .val (.int ph1), .val (.int w1), .val (.int l2), .val (.int m2), .val (.int ph2), .val (.int w2), .val (.ref b481), .val (.int (poV Cq503 (4 : Int32))), .val (.int (poV Cq504 (3 : Int32))), .val (.int (poV Cq505 (2 : Int32))), .val (.int (poV Cq506 (1 : Int32))), .val (.int (poV Cq507 (0 : Int32))), .val (.int (eF (4 : Int32) per l1 m1 ph1 w1 l2 m2 ph2 w2)), .val (.int (eF (3 : Int32) per l1 m1 ph1 w1 l2 m2 ph2 w2)), .val (.int (eF (2 : Int32) per l1 m1 ph1 w1 l2 m2 ph2 w2)), .unset, .unset] []))
                        refine OGets.step (fun _ => XS.iconst X527.here hx rfl (hb hby at_434)) ?_
                        show OGets p e below _ (T527.setTop (mkF m 435 #[.val (.int p0), .val (.int p1), .val (.int p2), .val (.int p3), .val (.int p4), .val (.int p5), .val (.int per), .val (.int l1), .val (.int m1), .val (.int ph1), .val (.int w1), .val (.int l2), .val (.int m2), .val (.int ph2), .val (.int w2), .val (.ref b481), .val (.int (poV Cq503 (4 : Int32))), .val (.int (poV Cq504 (3 : Int32))), .val (.int (poV Cq505 (2 : Int32))), .val (.int (poV Cq506 (1 : Int32))), .val (.int (poV Cq507 (0 : Int32))), .val (.int (eF (4 : Int32) per l1 m1 ph1 w1 l2 m2 ph2 w2)), .val (.int (eF (3 : Int32) per l1 m1 ph1 w1 l2 m2 ph2 w2)), .val (.int (eF (2 : Int32) per l1 m1 ph1 w1 l2 m2 ph2 w2)), .unset, .unset] [(.int 0)]))
                        have ke : (eF (1 : Int32) per l1 m1 ph1 w1 l2 m2 ph2 w2) = (0 : Int32) := (if_pos hc410_526).trans (if_pos hc427_528)
                        have kr := K512 _ _ X527 N527 (by rw [e527]; exact Z511) (by rw [e527]; exact V511)
                        rw [ke] at kr
                        exact kr
                      · refine OGets.step (fun _ => XS.ifNo X527.here hx rfl (hb hby at_427) rfl ((if0 _ _).trans (feq hc427_528).1)) ?_
                        show OGets p e below _ (T527.setTop (mkF m 430 #[.val (.int p0), .val (.int p1), .val (.int p2), .val (.int p3), .val (.int p4), .val (.int p5), .val (.int per), .val (.int l1), .val (.int m1), .val (.int ph1), .val (.int w1), .val (.int l2), .val (.int m2), .val (.int ph2), .val (.int w2), .val (.ref b481), .val (.int (poV Cq503 (4 : Int32))), .val (.int (poV Cq504 (3 : Int32))), .val (.int (poV Cq505 (2 : Int32))), .val (.int (poV Cq506 (1 : Int32))), .val (.int (poV Cq507 (0 : Int32))), .val (.int (eF (4 : Int32) per l1 m1 ph1 w1 l2 m2 ph2 w2)), .val (.int (eF (3 : Int32) per l1 m1 ph1 w1 l2 m2 ph2 w2)), .val (.int (eF (2 : Int32) per l1 m1 ph1 w1 l2 m2 ph2 w2)), .unset, .unset] []))
                        refine OGets.step (fun _ => XS.iconst X527.here hx rfl (hb hby at_430)) ?_
                        refine OGets.step (fun _ => XS.goto X527.here hx rfl (pc0 := 431) (pc' := 435) rfl (hb hby at_431) (by decide) (by decide)) ?_
                        show OGets p e below _ (T527.setTop (mkF m 435 #[.val (.int p0), .val (.int p1), .val (.int p2), .val (.int p3), .val (.int p4), .val (.int p5), .val (.int per), .val (.int l1), .val (.int m1), .val (.int ph1), .val (.int w1), .val (.int l2), .val (.int m2), .val (.int ph2), .val (.int w2), .val (.ref b481), .val (.int (poV Cq503 (4 : Int32))), .val (.int (poV Cq504 (3 : Int32))), .val (.int (poV Cq505 (2 : Int32))), .val (.int (poV Cq506 (1 : Int32))), .val (.int (poV Cq507 (0 : Int32))), .val (.int (eF (4 : Int32) per l1 m1 ph1 w1 l2 m2 ph2 w2)), .val (.int (eF (3 : Int32) per l1 m1 ph1 w1 l2 m2 ph2 w2)), .val (.int (eF (2 : Int32) per l1 m1 ph1 w1 l2 m2 ph2 w2)), .unset, .unset] [(.int 1)]))
                        have ke : (eF (1 : Int32) per l1 m1 ph1 w1 l2 m2 ph2 w2) = (1 : Int32) := (if_pos hc410_526).trans (if_neg hc427_528)
                        have kr := K512 _ _ X527 N527 (by rw [e527]; exact Z511) (by rw [e527]; exact V511)
                        rw [ke] at kr
                        exact kr
                    · refine OGets.step (fun _ => XS.ifYes X525.here hx rfl (pc0 := 410) (pc' := 430) rfl (hb hby at_410) rfl ((if0 _ _).trans (feq hc410_526).2) (by decide) (by decide)) ?_
                      show OGets p e below _ (T525.setTop (mkF m 430 #[.val (.int p0), .val (.int p1), .val (.int p2), .val (.int p3), .val (.int p4), .val (.int p5), .val (.int per), .val (.int l1), .val (.int m1), .val (.int ph1), .val (.int w1), .val (.int l2), .val (.int m2), .val (.int ph2), .val (.int w2), .val (.ref b481), .val (.int (poV Cq503 (4 : Int32))), .val (.int (poV Cq504 (3 : Int32))), .val (.int (poV Cq505 (2 : Int32))), .val (.int (poV Cq506 (1 : Int32))), .val (.int (poV Cq507 (0 : Int32))), .val (.int (eF (4 : Int32) per l1 m1 ph1 w1 l2 m2 ph2 w2)), .val (.int (eF (3 : Int32) per l1 m1 ph1 w1 l2 m2 ph2 w2)), .val (.int (eF (2 : Int32) per l1 m1 ph1 w1 l2 m2 ph2 w2)), .unset, .unset] []))
                      refine OGets.step (fun _ => XS.iconst X525.here hx rfl (hb hby at_430)) ?_
                      refine OGets.step (fun _ => XS.goto X525.here hx rfl (pc0 := 431) (pc' := 435) rfl (hb hby at_431) (by decide) (by decide)) ?_
                      show OGets p e below _ (T525.setTop (mkF m 435 #[.val (.int p0), .val (.int p1), .val (.int p2), .val (.int p3), .val (.int p4), .val (.int p5), .val (.int per), .val (.int l1), .val (.int m1), .val (.int ph1), .val (.int w1), .val (.int l2), .val (.int m2), .val (.int ph2), .val (.int w2), .val (.ref b481), .val (.int (poV Cq503 (4 : Int32))), .val (.int (poV Cq504 (3 : Int32))), .val (.int (poV Cq505 (2 : Int32))), .val (.int (poV Cq506 (1 : Int32))), .val (.int (poV Cq507 (0 : Int32))), .val (.int (eF (4 : Int32) per l1 m1 ph1 w1 l2 m2 ph2 w2)), .val (.int (eF (3 : Int32) per l1 m1 ph1 w1 l2 m2 ph2 w2)), .val (.int (eF (2 : Int32) per l1 m1 ph1 w1 l2 m2 ph2 w2)), .unset, .unset] [(.int 1)]))
                      have ke : (eF (1 : Int32) per l1 m1 ph1 w1 l2 m2 ph2 w2) = (1 : Int32) := if_neg hc410_526
                      have kr := K512 _ _ X525 N525 (by rw [e525]; exact Z511) (by rw [e525]; exact V511)
                      rw [ke] at kr
                      exact kr
                  refine OGets.step (fun _ => XS.iconst X510.here hx rfl (hb hby at_355)) ?_
                  refine OGets.step (fun _ => XS.iload X510.here hx rfl (hb hby at_356) rfl) ?_
                  refine OGets.step (fun _ => XS.iload X510.here hx rfl (hb hby at_358) rfl) ?_
                  refine OGets.step (fun _ => XS.iload X510.here hx rfl (hb hby at_360) rfl) ?_
                  refine OGets.step (fun _ => XS.iload X510.here hx rfl (hb hby at_362) rfl) ?_
                  refine OGets.step (fun _ => XS.iload X510.here hx rfl (hb hby at_364) rfl) ?_
                  show OGets p e below _ (T510.setTop (mkF m 366 #[.val (.int p0), .val (.int p1), .val (.int p2), .val (.int p3), .val (.int p4), .val (.int p5), .val (.int per), .val (.int l1), .val (.int m1), .val (.int ph1), .val (.int w1), .val (.int l2), .val (.int m2), .val (.int ph2), .val (.int w2), .val (.ref b481), .val (.int (poV Cq503 (4 : Int32))), .val (.int (poV Cq504 (3 : Int32))), .val (.int (poV Cq505 (2 : Int32))), .val (.int (poV Cq506 (1 : Int32))), .val (.int (poV Cq507 (0 : Int32))), .val (.int (eF (4 : Int32) per l1 m1 ph1 w1 l2 m2 ph2 w2)), .val (.int (eF (3 : Int32) per l1 m1 ph1 w1 l2 m2 ph2 w2)), .unset, .unset, .unset] [(.int w1), (.int ph1), (.int per), (.int m1), (.int l1), (.int 2)]))
                  obtain ⟨_, _, ⟨T529, L529, k529, n529⟩, -, X529, ⟨Lc529, hQ529, l529, y529, z529⟩, st529⟩ := Jvm.LawKit.callS X510 hx (y := (⟨"com/example/pelt/pelt/StackCountsPopPinLaw", "held", "(IIIIII)Z"⟩ : MethodName)) hown (mvT hZ (hw _ (List.mem_of_getElem? (i := 77) rfl))) (mvT hZ (hw _ (List.mem_of_getElem? (i := 78) rfl))) (mvT hZ (hw _ (List.mem_of_getElem? (i := 79) rfl))) (mvT hZ (hw _ (List.mem_of_getElem? (i := 80) rfl))) (by decide) (backOf (W := 0) (rm_held l Z a0 hw [] (2 : Int32) l1 m1 per ph1 w1 T510.heap n0  Z510 (own_nz hP)) hZ (hw _ (List.mem_of_getElem? (i := 80) rfl)) (hw _ (List.mem_of_getElem? (i := 79) rfl)) (by decide) (by decide)) (g := (mkF m 366 #[.val (.int p0), .val (.int p1), .val (.int p2), .val (.int p3), .val (.int p4), .val (.int p5), .val (.int per), .val (.int l1), .val (.int m1), .val (.int ph1), .val (.int w1), .val (.int l2), .val (.int m2), .val (.int ph2), .val (.int w2), .val (.ref b481), .val (.int (poV Cq503 (4 : Int32))), .val (.int (poV Cq504 (3 : Int32))), .val (.int (poV Cq505 (2 : Int32))), .val (.int (poV Cq506 (1 : Int32))), .val (.int (poV Cq507 (0 : Int32))), .val (.int (eF (4 : Int32) per l1 m1 ph1 w1 l2 m2 ph2 w2)), .val (.int (eF (3 : Int32) per l1 m1 ph1 w1 l2 m2 ph2 w2)), .unset, .unset, .unset] [(.int w1), (.int ph1), (.int per), (.int m1), (.int l1), (.int 2)])) rfl (by rw [hml]; rfl) (argsL := [(.int 2), (.int l1), (.int m1), (.int per), (.int ph1), (.int w1)]) (rest := []) (lenOf pd_18 rfl) rfl (by show 2 * 0 + _ ≤ _; exact Nat.le_of_eq rfl) (hb hby at_366) (fun _ _ => ⟨rfl, rfl, Nat.le_of_ble_eq_true rfl, Nat.le_of_ble_eq_true rfl⟩)
                  dsimp only [Pt.U, Pt.locs, Pt.cells, Pt.slots] at X529 l529 y529 z529 st529 hQ529
                  rw [l529, y529, z529] at X529
                  obtain ⟨rfl, rfl, e529⟩ := hQ529
                  have N529 := Fr.app N510 (Fr.nil n0)
                  refine OGets.step st529 ?_
                  by_cases hc369_530 : (f_held (2 : Int32) l1 m1 per ph1 w1) = (0 : Int32)
                  · refine OGets.step (fun _ => XS.ifNo X529.here hx rfl (hb hby at_369) rfl ((if0 _ _).trans (teq hc369_530).2)) ?_
                    show OGets p e below _ (T529.setTop (mkF m 372 #[.val (.int p0), .val (.int p1), .val (.int p2), .val (.int p3), .val (.int p4), .val (.int p5), .val (.int per), .val (.int l1), .val (.int m1), .val (.int ph1), .val (.int w1), .val (.int l2), .val (.int m2), .val (.int ph2), .val (.int w2), .val (.ref b481), .val (.int (poV Cq503 (4 : Int32))), .val (.int (poV Cq504 (3 : Int32))), .val (.int (poV Cq505 (2 : Int32))), .val (.int (poV Cq506 (1 : Int32))), .val (.int (poV Cq507 (0 : Int32))), .val (.int (eF (4 : Int32) per l1 m1 ph1 w1 l2 m2 ph2 w2)), .val (.int (eF (3 : Int32) per l1 m1 ph1 w1 l2 m2 ph2 w2)), .unset, .unset, .unset] []))
                    refine OGets.step (fun _ => XS.iconst X529.here hx rfl (hb hby at_372)) ?_
                    refine OGets.step (fun _ => XS.iload X529.here hx rfl (hb hby at_373) rfl) ?_
                    refine OGets.step (fun _ => XS.iload X529.here hx rfl (hb hby at_375) rfl) ?_
                    refine OGets.step (fun _ => XS.iload X529.here hx rfl (hb hby at_377) rfl) ?_
                    refine OGets.step (fun _ => XS.iload X529.here hx rfl (hb hby at_379) rfl) ?_
                    refine OGets.step (fun _ => XS.iload X529.here hx rfl (hb hby at_381) rfl) ?_
                    obtain ⟨_, _, ⟨T531, L531, k531, n531⟩, -, X531, ⟨Lc531, hQ531, l531, y531, z531⟩, st531⟩ := Jvm.LawKit.callS X529 hx (y := (⟨"com/example/pelt/pelt/StackCountsPopPinLaw", "held", "(IIIIII)Z"⟩ : MethodName)) hown (mvT hZ (hw _ (List.mem_of_getElem? (i := 77) rfl))) (mvT hZ (hw _ (List.mem_of_getElem? (i := 78) rfl))) (mvT hZ (hw _ (List.mem_of_getElem? (i := 79) rfl))) (mvT hZ (hw _ (List.mem_of_getElem? (i := 80) rfl))) (by decide) (backOf (W := 0) (rm_held l Z a0 hw [] (2 : Int32) l2 m2 per ph2 w2 T510.heap n0  Z510 (own_nz hP)) hZ (hw _ (List.mem_of_getElem? (i := 80) rfl)) (hw _ (List.mem_of_getElem? (i := 79) rfl)) (by decide) (by decide)) (g := (mkF m 383 #[.val (.int p0), .val (.int p1), .val (.int p2), .val (.int p3), .val (.int p4), .val (.int p5), .val (.int per), .val (.int l1), .val (.int m1), .val (.int ph1), .val (.int w1), .val (.int l2), .val (.int m2), .val (.int ph2), .val (.int w2), .val (.ref b481), .val (.int (poV Cq503 (4 : Int32))), .val (.int (poV Cq504 (3 : Int32))), .val (.int (poV Cq505 (2 : Int32))), .val (.int (poV Cq506 (1 : Int32))), .val (.int (poV Cq507 (0 : Int32))), .val (.int (eF (4 : Int32) per l1 m1 ph1 w1 l2 m2 ph2 w2)), .val (.int (eF (3 : Int32) per l1 m1 ph1 w1 l2 m2 ph2 w2)), .unset, .unset, .unset] [(.int w2), (.int ph2), (.int per), (.int m2), (.int l2), (.int 2)])) rfl (by rw [hml]; rfl) (argsL := [(.int 2), (.int l2), (.int m2), (.int per), (.int ph2), (.int w2)]) (rest := []) (lenOf pd_18 rfl) rfl (by show 2 * 0 + _ ≤ _; exact Nat.le_of_eq rfl) (hb hby at_383) (fun _ _ => ⟨rfl, e529, Nat.le_of_ble_eq_true rfl, Nat.le_of_ble_eq_true rfl⟩)
                    dsimp only [Pt.U, Pt.locs, Pt.cells, Pt.slots] at X531 l531 y531 z531 st531 hQ531
                    rw [l531, y531, z531] at X531
                    obtain ⟨rfl, rfl, e531⟩ := hQ531
                    have N531 := Fr.app N529 (Fr.nil n0)
                    refine OGets.step st531 ?_
                    show OGets p e below _ (T531.setTop (mkF m 386 #[.val (.int p0), .val (.int p1), .val (.int p2), .val (.int p3), .val (.int p4), .val (.int p5), .val (.int per), .val (.int l1), .val (.int m1), .val (.int ph1), .val (.int w1), .val (.int l2), .val (.int m2), .val (.int ph2), .val (.int w2), .val (.ref b481), .val (.int (poV Cq503 (4 : Int32))), .val (.int (poV Cq504 (3 : Int32))), .val (.int (poV Cq505 (2 : Int32))), .val (.int (poV Cq506 (1 : Int32))), .val (.int (poV Cq507 (0 : Int32))), .val (.int (eF (4 : Int32) per l1 m1 ph1 w1 l2 m2 ph2 w2)), .val (.int (eF (3 : Int32) per l1 m1 ph1 w1 l2 m2 ph2 w2)), .unset, .unset, .unset] [(.int (f_held (2 : Int32) l2 m2 per ph2 w2))]))
                    by_cases hc386_532 : (f_held (2 : Int32) l2 m2 per ph2 w2) = (0 : Int32)
                    · refine OGets.step (fun _ => XS.ifYes X531.here hx rfl (pc0 := 386) (pc' := 393) rfl (hb hby at_386) rfl ((if0 _ _).trans (teq hc386_532).1) (by decide) (by decide)) ?_
                      show OGets p e below _ (T531.setTop (mkF m 393 #[.val (.int p0), .val (.int p1), .val (.int p2), .val (.int p3), .val (.int p4), .val (.int p5), .val (.int per), .val (.int l1), .val (.int m1), .val (.int ph1), .val (.int w1), .val (.int l2), .val (.int m2), .val (.int ph2), .val (.int w2), .val (.ref b481), .val (.int (poV Cq503 (4 : Int32))), .val (.int (poV Cq504 (3 : Int32))), .val (.int (poV Cq505 (2 : Int32))), .val (.int (poV Cq506 (1 : Int32))), .val (.int (poV Cq507 (0 : Int32))), .val (.int (eF (4 : Int32) per l1 m1 ph1 w1 l2 m2 ph2 w2)), .val (.int (eF (3 : Int32) per l1 m1 ph1 w1 l2 m2 ph2 w2)), .unset, .unset, .unset] []))
                      refine OGets.step (fun _ => XS.iconst X531.here hx rfl (hb hby at_393)) ?_
                      show OGets p e below _ (T531.setTop (mkF m 394 #[.val (.int p0), .val (.int p1), .val (.int p2), .val (.int p3), .val (.int p4), .val (.int p5), .val (.int per), .val (.int l1), .val (.int m1), .val (.int ph1), .val (.int w1), .val (.int l2), .val (.int m2), .val (.int ph2), .val (.int w2), .val (.ref b481), .val (.int (poV Cq503 (4 : Int32))), .val (.int (poV Cq504 (3 : Int32))), .val (.int (poV Cq505 (2 : Int32))), .val (.int (poV Cq506 (1 : Int32))), .val (.int (poV Cq507 (0 : Int32))), .val (.int (eF (4 : Int32) per l1 m1 ph1 w1 l2 m2 ph2 w2)), .val (.int (eF (3 : Int32) per l1 m1 ph1 w1 l2 m2 ph2 w2)), .unset, .unset, .unset] [(.int 0)]))
                      have ke : (eF (2 : Int32) per l1 m1 ph1 w1 l2 m2 ph2 w2) = (0 : Int32) := (if_pos hc369_530).trans (if_pos hc386_532)
                      have kr := K511 _ _ X531 N531 (by rw [e531]; exact Z510) (by rw [e531]; exact V510)
                      rw [ke] at kr
                      exact kr
                    · refine OGets.step (fun _ => XS.ifNo X531.here hx rfl (hb hby at_386) rfl ((if0 _ _).trans (feq hc386_532).1)) ?_
                      show OGets p e below _ (T531.setTop (mkF m 389 #[.val (.int p0), .val (.int p1), .val (.int p2), .val (.int p3), .val (.int p4), .val (.int p5), .val (.int per), .val (.int l1), .val (.int m1), .val (.int ph1), .val (.int w1), .val (.int l2), .val (.int m2), .val (.int ph2), .val (.int w2), .val (.ref b481), .val (.int (poV Cq503 (4 : Int32))), .val (.int (poV Cq504 (3 : Int32))), .val (.int (poV Cq505 (2 : Int32))), .val (.int (poV Cq506 (1 : Int32))), .val (.int (poV Cq507 (0 : Int32))), .val (.int (eF (4 : Int32) per l1 m1 ph1 w1 l2 m2 ph2 w2)), .val (.int (eF (3 : Int32) per l1 m1 ph1 w1 l2 m2 ph2 w2)), .unset, .unset, .unset] []))
                      refine OGets.step (fun _ => XS.iconst X531.here hx rfl (hb hby at_389)) ?_
                      refine OGets.step (fun _ => XS.goto X531.here hx rfl (pc0 := 390) (pc' := 394) rfl (hb hby at_390) (by decide) (by decide)) ?_
                      show OGets p e below _ (T531.setTop (mkF m 394 #[.val (.int p0), .val (.int p1), .val (.int p2), .val (.int p3), .val (.int p4), .val (.int p5), .val (.int per), .val (.int l1), .val (.int m1), .val (.int ph1), .val (.int w1), .val (.int l2), .val (.int m2), .val (.int ph2), .val (.int w2), .val (.ref b481), .val (.int (poV Cq503 (4 : Int32))), .val (.int (poV Cq504 (3 : Int32))), .val (.int (poV Cq505 (2 : Int32))), .val (.int (poV Cq506 (1 : Int32))), .val (.int (poV Cq507 (0 : Int32))), .val (.int (eF (4 : Int32) per l1 m1 ph1 w1 l2 m2 ph2 w2)), .val (.int (eF (3 : Int32) per l1 m1 ph1 w1 l2 m2 ph2 w2)), .unset, .unset, .unset] [(.int 1)]))
                      have ke : (eF (2 : Int32) per l1 m1 ph1 w1 l2 m2 ph2 w2) = (1 : Int32) := (if_pos hc369_530).trans (if_neg hc386_532)
                      have kr := K511 _ _ X531 N531 (by rw [e531]; exact Z510) (by rw [e531]; exact V510)
                      rw [ke] at kr
                      exact kr
                  · refine OGets.step (fun _ => XS.ifYes X529.here hx rfl (pc0 := 369) (pc' := 389) rfl (hb hby at_369) rfl ((if0 _ _).trans (feq hc369_530).2) (by decide) (by decide)) ?_
                    show OGets p e below _ (T529.setTop (mkF m 389 #[.val (.int p0), .val (.int p1), .val (.int p2), .val (.int p3), .val (.int p4), .val (.int p5), .val (.int per), .val (.int l1), .val (.int m1), .val (.int ph1), .val (.int w1), .val (.int l2), .val (.int m2), .val (.int ph2), .val (.int w2), .val (.ref b481), .val (.int (poV Cq503 (4 : Int32))), .val (.int (poV Cq504 (3 : Int32))), .val (.int (poV Cq505 (2 : Int32))), .val (.int (poV Cq506 (1 : Int32))), .val (.int (poV Cq507 (0 : Int32))), .val (.int (eF (4 : Int32) per l1 m1 ph1 w1 l2 m2 ph2 w2)), .val (.int (eF (3 : Int32) per l1 m1 ph1 w1 l2 m2 ph2 w2)), .unset, .unset, .unset] []))
                    refine OGets.step (fun _ => XS.iconst X529.here hx rfl (hb hby at_389)) ?_
                    refine OGets.step (fun _ => XS.goto X529.here hx rfl (pc0 := 390) (pc' := 394) rfl (hb hby at_390) (by decide) (by decide)) ?_
                    show OGets p e below _ (T529.setTop (mkF m 394 #[.val (.int p0), .val (.int p1), .val (.int p2), .val (.int p3), .val (.int p4), .val (.int p5), .val (.int per), .val (.int l1), .val (.int m1), .val (.int ph1), .val (.int w1), .val (.int l2), .val (.int m2), .val (.int ph2), .val (.int w2), .val (.ref b481), .val (.int (poV Cq503 (4 : Int32))), .val (.int (poV Cq504 (3 : Int32))), .val (.int (poV Cq505 (2 : Int32))), .val (.int (poV Cq506 (1 : Int32))), .val (.int (poV Cq507 (0 : Int32))), .val (.int (eF (4 : Int32) per l1 m1 ph1 w1 l2 m2 ph2 w2)), .val (.int (eF (3 : Int32) per l1 m1 ph1 w1 l2 m2 ph2 w2)), .unset, .unset, .unset] [(.int 1)]))
                    have ke : (eF (2 : Int32) per l1 m1 ph1 w1 l2 m2 ph2 w2) = (1 : Int32) := if_neg hc369_530
                    have kr := K511 _ _ X529 N529 (by rw [e529]; exact Z510) (by rw [e529]; exact V510)
                    rw [ke] at kr
                    exact kr
                refine OGets.step (fun _ => XS.iconst X509.here hx rfl (hb hby at_314)) ?_
                refine OGets.step (fun _ => XS.iload X509.here hx rfl (hb hby at_315) rfl) ?_
                refine OGets.step (fun _ => XS.iload X509.here hx rfl (hb hby at_317) rfl) ?_
                refine OGets.step (fun _ => XS.iload X509.here hx rfl (hb hby at_319) rfl) ?_
                refine OGets.step (fun _ => XS.iload X509.here hx rfl (hb hby at_321) rfl) ?_
                refine OGets.step (fun _ => XS.iload X509.here hx rfl (hb hby at_323) rfl) ?_
                show OGets p e below _ (T509.setTop (mkF m 325 #[.val (.int p0), .val (.int p1), .val (.int p2), .val (.int p3), .val (.int p4), .val (.int p5), .val (.int per), .val (.int l1), .val (.int m1), .val (.int ph1), .val (.int w1), .val (.int l2), .val (.int m2), .val (.int ph2), .val (.int w2), .val (.ref b481), .val (.int (poV Cq503 (4 : Int32))), .val (.int (poV Cq504 (3 : Int32))), .val (.int (poV Cq505 (2 : Int32))), .val (.int (poV Cq506 (1 : Int32))), .val (.int (poV Cq507 (0 : Int32))), .val (.int (eF (4 : Int32) per l1 m1 ph1 w1 l2 m2 ph2 w2)), .unset, .unset, .unset, .unset] [(.int w1), (.int ph1), (.int per), (.int m1), (.int l1), (.int 3)]))
                obtain ⟨_, _, ⟨T533, L533, k533, n533⟩, -, X533, ⟨Lc533, hQ533, l533, y533, z533⟩, st533⟩ := Jvm.LawKit.callS X509 hx (y := (⟨"com/example/pelt/pelt/StackCountsPopPinLaw", "held", "(IIIIII)Z"⟩ : MethodName)) hown (mvT hZ (hw _ (List.mem_of_getElem? (i := 77) rfl))) (mvT hZ (hw _ (List.mem_of_getElem? (i := 78) rfl))) (mvT hZ (hw _ (List.mem_of_getElem? (i := 79) rfl))) (mvT hZ (hw _ (List.mem_of_getElem? (i := 80) rfl))) (by decide) (backOf (W := 0) (rm_held l Z a0 hw [] (3 : Int32) l1 m1 per ph1 w1 T509.heap n0  Z509 (own_nz hP)) hZ (hw _ (List.mem_of_getElem? (i := 80) rfl)) (hw _ (List.mem_of_getElem? (i := 79) rfl)) (by decide) (by decide)) (g := (mkF m 325 #[.val (.int p0), .val (.int p1), .val (.int p2), .val (.int p3), .val (.int p4), .val (.int p5), .val (.int per), .val (.int l1), .val (.int m1), .val (.int ph1), .val (.int w1), .val (.int l2), .val (.int m2), .val (.int ph2), .val (.int w2), .val (.ref b481), .val (.int (poV Cq503 (4 : Int32))), .val (.int (poV Cq504 (3 : Int32))), .val (.int (poV Cq505 (2 : Int32))), .val (.int (poV Cq506 (1 : Int32))), .val (.int (poV Cq507 (0 : Int32))), .val (.int (eF (4 : Int32) per l1 m1 ph1 w1 l2 m2 ph2 w2)), .unset, .unset, .unset, .unset] [(.int w1), (.int ph1), (.int per), (.int m1), (.int l1), (.int 3)])) rfl (by rw [hml]; rfl) (argsL := [(.int 3), (.int l1), (.int m1), (.int per), (.int ph1), (.int w1)]) (rest := []) (lenOf pd_18 rfl) rfl (by show 2 * 0 + _ ≤ _; exact Nat.le_of_eq rfl) (hb hby at_325) (fun _ _ => ⟨rfl, rfl, Nat.le_of_ble_eq_true rfl, Nat.le_of_ble_eq_true rfl⟩)
                dsimp only [Pt.U, Pt.locs, Pt.cells, Pt.slots] at X533 l533 y533 z533 st533 hQ533
                rw [l533, y533, z533] at X533
                obtain ⟨rfl, rfl, e533⟩ := hQ533
                have N533 := Fr.app N509 (Fr.nil n0)
                refine OGets.step st533 ?_
                by_cases hc328_534 : (f_held (3 : Int32) l1 m1 per ph1 w1) = (0 : Int32)
                · refine OGets.step (fun _ => XS.ifNo X533.here hx rfl (hb hby at_328) rfl ((if0 _ _).trans (teq hc328_534).2)) ?_
                  show OGets p e below _ (T533.setTop (mkF m 331 #[.val (.int p0), .val (.int p1), .val (.int p2), .val (.int p3), .val (.int p4), .val (.int p5), .val (.int per), .val (.int l1), .val (.int m1), .val (.int ph1), .val (.int w1), .val (.int l2), .val (.int m2), .val (.int ph2), .val (.int w2), .val (.ref b481), .val (.int (poV Cq503 (4 : Int32))), .val (.int (poV Cq504 (3 : Int32))), .val (.int (poV Cq505 (2 : Int32))), .val (.int (poV Cq506 (1 : Int32))), .val (.int (poV Cq507 (0 : Int32))), .val (.int (eF (4 : Int32) per l1 m1 ph1 w1 l2 m2 ph2 w2)), .unset, .unset, .unset, .unset] []))
                  refine OGets.step (fun _ => XS.iconst X533.here hx rfl (hb hby at_331)) ?_
                  refine OGets.step (fun _ => XS.iload X533.here hx rfl (hb hby at_332) rfl) ?_
                  refine OGets.step (fun _ => XS.iload X533.here hx rfl (hb hby at_334) rfl) ?_
                  refine OGets.step (fun _ => XS.iload X533.here hx rfl (hb hby at_336) rfl) ?_
                  refine OGets.step (fun _ => XS.iload X533.here hx rfl (hb hby at_338) rfl) ?_
                  refine OGets.step (fun _ => XS.iload X533.here hx rfl (hb hby at_340) rfl) ?_
                  obtain ⟨_, _, ⟨T535, L535, k535, n535⟩, -, X535, ⟨Lc535, hQ535, l535, y535, z535⟩, st535⟩ := Jvm.LawKit.callS X533 hx (y := (⟨"com/example/pelt/pelt/StackCountsPopPinLaw", "held", "(IIIIII)Z"⟩ : MethodName)) hown (mvT hZ (hw _ (List.mem_of_getElem? (i := 77) rfl))) (mvT hZ (hw _ (List.mem_of_getElem? (i := 78) rfl))) (mvT hZ (hw _ (List.mem_of_getElem? (i := 79) rfl))) (mvT hZ (hw _ (List.mem_of_getElem? (i := 80) rfl))) (by decide) (backOf (W := 0) (rm_held l Z a0 hw [] (3 : Int32) l2 m2 per ph2 w2 T509.heap n0  Z509 (own_nz hP)) hZ (hw _ (List.mem_of_getElem? (i := 80) rfl)) (hw _ (List.mem_of_getElem? (i := 79) rfl)) (by decide) (by decide)) (g := (mkF m 342 #[.val (.int p0), .val (.int p1), .val (.int p2), .val (.int p3), .val (.int p4), .val (.int p5), .val (.int per), .val (.int l1), .val (.int m1), .val (.int ph1), .val (.int w1), .val (.int l2), .val (.int m2), .val (.int ph2), .val (.int w2), .val (.ref b481), .val (.int (poV Cq503 (4 : Int32))), .val (.int (poV Cq504 (3 : Int32))), .val (.int (poV Cq505 (2 : Int32))), .val (.int (poV Cq506 (1 : Int32))), .val (.int (poV Cq507 (0 : Int32))), .val (.int (eF (4 : Int32) per l1 m1 ph1 w1 l2 m2 ph2 w2)), .unset, .unset, .unset, .unset] [(.int w2), (.int ph2), (.int per), (.int m2), (.int l2), (.int 3)])) rfl (by rw [hml]; rfl) (argsL := [(.int 3), (.int l2), (.int m2), (.int per), (.int ph2), (.int w2)]) (rest := []) (lenOf pd_18 rfl) rfl (by show 2 * 0 + _ ≤ _; exact Nat.le_of_eq rfl) (hb hby at_342) (fun _ _ => ⟨rfl, e533, Nat.le_of_ble_eq_true rfl, Nat.le_of_ble_eq_true rfl⟩)
                  dsimp only [Pt.U, Pt.locs, Pt.cells, Pt.slots] at X535 l535 y535 z535 st535 hQ535
                  rw [l535, y535, z535] at X535
                  obtain ⟨rfl, rfl, e535⟩ := hQ535
                  have N535 := Fr.app N533 (Fr.nil n0)
                  refine OGets.step st535 ?_
                  show OGets p e below _ (T535.setTop (mkF m 345 #[.val (.int p0), .val (.int p1), .val (.int p2), .val (.int p3), .val (.int p4), .val (.int p5), .val (.int per), .val (.int l1), .val (.int m1), .val (.int ph1), .val (.int w1), .val (.int l2), .val (.int m2), .val (.int ph2), .val (.int w2), .val (.ref b481), .val (.int (poV Cq503 (4 : Int32))), .val (.int (poV Cq504 (3 : Int32))), .val (.int (poV Cq505 (2 : Int32))), .val (.int (poV Cq506 (1 : Int32))), .val (.int (poV Cq507 (0 : Int32))), .val (.int (eF (4 : Int32) per l1 m1 ph1 w1 l2 m2 ph2 w2)), .unset, .unset, .unset, .unset] [(.int (f_held (3 : Int32) l2 m2 per ph2 w2))]))
                  by_cases hc345_536 : (f_held (3 : Int32) l2 m2 per ph2 w2) = (0 : Int32)
                  · refine OGets.step (fun _ => XS.ifYes X535.here hx rfl (pc0 := 345) (pc' := 352) rfl (hb hby at_345) rfl ((if0 _ _).trans (teq hc345_536).1) (by decide) (by decide)) ?_
                    show OGets p e below _ (T535.setTop (mkF m 352 #[.val (.int p0), .val (.int p1), .val (.int p2), .val (.int p3), .val (.int p4), .val (.int p5), .val (.int per), .val (.int l1), .val (.int m1), .val (.int ph1), .val (.int w1), .val (.int l2), .val (.int m2), .val (.int ph2), .val (.int w2), .val (.ref b481), .val (.int (poV Cq503 (4 : Int32))), .val (.int (poV Cq504 (3 : Int32))), .val (.int (poV Cq505 (2 : Int32))), .val (.int (poV Cq506 (1 : Int32))), .val (.int (poV Cq507 (0 : Int32))), .val (.int (eF (4 : Int32) per l1 m1 ph1 w1 l2 m2 ph2 w2)), .unset, .unset, .unset, .unset] []))
                    refine OGets.step (fun _ => XS.iconst X535.here hx rfl (hb hby at_352)) ?_
                    show OGets p e below _ (T535.setTop (mkF m 353 #[.val (.int p0), .val (.int p1), .val (.int p2), .val (.int p3), .val (.int p4), .val (.int p5), .val (.int per), .val (.int l1), .val (.int m1), .val (.int ph1), .val (.int w1), .val (.int l2), .val (.int m2), .val (.int ph2), .val (.int w2), .val (.ref b481), .val (.int (poV Cq503 (4 : Int32))), .val (.int (poV Cq504 (3 : Int32))), .val (.int (poV Cq505 (2 : Int32))), .val (.int (poV Cq506 (1 : Int32))), .val (.int (poV Cq507 (0 : Int32))), .val (.int (eF (4 : Int32) per l1 m1 ph1 w1 l2 m2 ph2 w2)), .unset, .unset, .unset, .unset] [(.int 0)]))
                    have ke : (eF (3 : Int32) per l1 m1 ph1 w1 l2 m2 ph2 w2) = (0 : Int32) := (if_pos hc328_534).trans (if_pos hc345_536)
                    have kr := K510 _ _ X535 N535 (by rw [e535]; exact Z509) (by rw [e535]; exact V509)
                    rw [ke] at kr
                    exact kr
                  · refine OGets.step (fun _ => XS.ifNo X535.here hx rfl (hb hby at_345) rfl ((if0 _ _).trans (feq hc345_536).1)) ?_
                    show OGets p e below _ (T535.setTop (mkF m 348 #[.val (.int p0), .val (.int p1), .val (.int p2), .val (.int p3), .val (.int p4), .val (.int p5), .val (.int per), .val (.int l1), .val (.int m1), .val (.int ph1), .val (.int w1), .val (.int l2), .val (.int m2), .val (.int ph2), .val (.int w2), .val (.ref b481), .val (.int (poV Cq503 (4 : Int32))), .val (.int (poV Cq504 (3 : Int32))), .val (.int (poV Cq505 (2 : Int32))), .val (.int (poV Cq506 (1 : Int32))), .val (.int (poV Cq507 (0 : Int32))), .val (.int (eF (4 : Int32) per l1 m1 ph1 w1 l2 m2 ph2 w2)), .unset, .unset, .unset, .unset] []))
                    refine OGets.step (fun _ => XS.iconst X535.here hx rfl (hb hby at_348)) ?_
                    refine OGets.step (fun _ => XS.goto X535.here hx rfl (pc0 := 349) (pc' := 353) rfl (hb hby at_349) (by decide) (by decide)) ?_
                    show OGets p e below _ (T535.setTop (mkF m 353 #[.val (.int p0), .val (.int p1), .val (.int p2), .val (.int p3), .val (.int p4), .val (.int p5), .val (.int per), .val (.int l1), .val (.int m1), .val (.int ph1), .val (.int w1), .val (.int l2), .val (.int m2), .val (.int ph2), .val (.int w2), .val (.ref b481), .val (.int (poV Cq503 (4 : Int32))), .val (.int (poV Cq504 (3 : Int32))), .val (.int (poV Cq505 (2 : Int32))), .val (.int (poV Cq506 (1 : Int32))), .val (.int (poV Cq507 (0 : Int32))), .val (.int (eF (4 : Int32) per l1 m1 ph1 w1 l2 m2 ph2 w2)), .unset, .unset, .unset, .unset] [(.int 1)]))
                    have ke : (eF (3 : Int32) per l1 m1 ph1 w1 l2 m2 ph2 w2) = (1 : Int32) := (if_pos hc328_534).trans (if_neg hc345_536)
                    have kr := K510 _ _ X535 N535 (by rw [e535]; exact Z509) (by rw [e535]; exact V509)
                    rw [ke] at kr
                    exact kr
                · refine OGets.step (fun _ => XS.ifYes X533.here hx rfl (pc0 := 328) (pc' := 348) rfl (hb hby at_328) rfl ((if0 _ _).trans (feq hc328_534).2) (by decide) (by decide)) ?_
                  show OGets p e below _ (T533.setTop (mkF m 348 #[.val (.int p0), .val (.int p1), .val (.int p2), .val (.int p3), .val (.int p4), .val (.int p5), .val (.int per), .val (.int l1), .val (.int m1), .val (.int ph1), .val (.int w1), .val (.int l2), .val (.int m2), .val (.int ph2), .val (.int w2), .val (.ref b481), .val (.int (poV Cq503 (4 : Int32))), .val (.int (poV Cq504 (3 : Int32))), .val (.int (poV Cq505 (2 : Int32))), .val (.int (poV Cq506 (1 : Int32))), .val (.int (poV Cq507 (0 : Int32))), .val (.int (eF (4 : Int32) per l1 m1 ph1 w1 l2 m2 ph2 w2)), .unset, .unset, .unset, .unset] []))
                  refine OGets.step (fun _ => XS.iconst X533.here hx rfl (hb hby at_348)) ?_
                  refine OGets.step (fun _ => XS.goto X533.here hx rfl (pc0 := 349) (pc' := 353) rfl (hb hby at_349) (by decide) (by decide)) ?_
                  show OGets p e below _ (T533.setTop (mkF m 353 #[.val (.int p0), .val (.int p1), .val (.int p2), .val (.int p3), .val (.int p4), .val (.int p5), .val (.int per), .val (.int l1), .val (.int m1), .val (.int ph1), .val (.int w1), .val (.int l2), .val (.int m2), .val (.int ph2), .val (.int w2), .val (.ref b481), .val (.int (poV Cq503 (4 : Int32))), .val (.int (poV Cq504 (3 : Int32))), .val (.int (poV Cq505 (2 : Int32))), .val (.int (poV Cq506 (1 : Int32))), .val (.int (poV Cq507 (0 : Int32))), .val (.int (eF (4 : Int32) per l1 m1 ph1 w1 l2 m2 ph2 w2)), .unset, .unset, .unset, .unset] [(.int 1)]))
                  have ke : (eF (3 : Int32) per l1 m1 ph1 w1 l2 m2 ph2 w2) = (1 : Int32) := if_neg hc328_534
                  have kr := K510 _ _ X533 N533 (by rw [e533]; exact Z509) (by rw [e533]; exact V509)
                  rw [ke] at kr
                  exact kr
              refine OGets.step (fun _ => XS.iconst X508.here hx rfl (hb hby at_273)) ?_
              refine OGets.step (fun _ => XS.iload X508.here hx rfl (hb hby at_274) rfl) ?_
              refine OGets.step (fun _ => XS.iload X508.here hx rfl (hb hby at_276) rfl) ?_
              refine OGets.step (fun _ => XS.iload X508.here hx rfl (hb hby at_278) rfl) ?_
              refine OGets.step (fun _ => XS.iload X508.here hx rfl (hb hby at_280) rfl) ?_
              refine OGets.step (fun _ => XS.iload X508.here hx rfl (hb hby at_282) rfl) ?_
              show OGets p e below _ (T508.setTop (mkF m 284 #[.val (.int p0), .val (.int p1), .val (.int p2), .val (.int p3), .val (.int p4), .val (.int p5), .val (.int per), .val (.int l1), .val (.int m1), .val (.int ph1), .val (.int w1), .val (.int l2), .val (.int m2), .val (.int ph2), .val (.int w2), .val (.ref b481), .val (.int (poV Cq503 (4 : Int32))), .val (.int (poV Cq504 (3 : Int32))), .val (.int (poV Cq505 (2 : Int32))), .val (.int (poV Cq506 (1 : Int32))), .val (.int (poV Cq507 (0 : Int32))), .unset, .unset, .unset, .unset, .unset] [(.int w1), (.int ph1), (.int per), (.int m1), (.int l1), (.int 4)]))
              obtain ⟨_, _, ⟨T537, L537, k537, n537⟩, -, X537, ⟨Lc537, hQ537, l537, y537, z537⟩, st537⟩ := Jvm.LawKit.callS X508 hx (y := (⟨"com/example/pelt/pelt/StackCountsPopPinLaw", "held", "(IIIIII)Z"⟩ : MethodName)) hown (mvT hZ (hw _ (List.mem_of_getElem? (i := 77) rfl))) (mvT hZ (hw _ (List.mem_of_getElem? (i := 78) rfl))) (mvT hZ (hw _ (List.mem_of_getElem? (i := 79) rfl))) (mvT hZ (hw _ (List.mem_of_getElem? (i := 80) rfl))) (by decide) (backOf (W := 0) (rm_held l Z a0 hw [] (4 : Int32) l1 m1 per ph1 w1 T508.heap n0  Z508 (own_nz hP)) hZ (hw _ (List.mem_of_getElem? (i := 80) rfl)) (hw _ (List.mem_of_getElem? (i := 79) rfl)) (by decide) (by decide)) (g := (mkF m 284 #[.val (.int p0), .val (.int p1), .val (.int p2), .val (.int p3), .val (.int p4), .val (.int p5), .val (.int per), .val (.int l1), .val (.int m1), .val (.int ph1), .val (.int w1), .val (.int l2), .val (.int m2), .val (.int ph2), .val (.int w2), .val (.ref b481), .val (.int (poV Cq503 (4 : Int32))), .val (.int (poV Cq504 (3 : Int32))), .val (.int (poV Cq505 (2 : Int32))), .val (.int (poV Cq506 (1 : Int32))), .val (.int (poV Cq507 (0 : Int32))), .unset, .unset, .unset, .unset, .unset] [(.int w1), (.int ph1), (.int per), (.int m1), (.int l1), (.int 4)])) rfl (by rw [hml]; rfl) (argsL := [(.int 4), (.int l1), (.int m1), (.int per), (.int ph1), (.int w1)]) (rest := []) (lenOf pd_18 rfl) rfl (by show 2 * 0 + _ ≤ _; exact Nat.le_of_eq rfl) (hb hby at_284) (fun _ _ => ⟨rfl, rfl, Nat.le_of_ble_eq_true rfl, Nat.le_of_ble_eq_true rfl⟩)
              dsimp only [Pt.U, Pt.locs, Pt.cells, Pt.slots] at X537 l537 y537 z537 st537 hQ537
              rw [l537, y537, z537] at X537
              obtain ⟨rfl, rfl, e537⟩ := hQ537
              have N537 := Fr.app N508 (Fr.nil n0)
              refine OGets.step st537 ?_
              by_cases hc287_538 : (f_held (4 : Int32) l1 m1 per ph1 w1) = (0 : Int32)
              · refine OGets.step (fun _ => XS.ifNo X537.here hx rfl (hb hby at_287) rfl ((if0 _ _).trans (teq hc287_538).2)) ?_
                show OGets p e below _ (T537.setTop (mkF m 290 #[.val (.int p0), .val (.int p1), .val (.int p2), .val (.int p3), .val (.int p4), .val (.int p5), .val (.int per), .val (.int l1), .val (.int m1), .val (.int ph1), .val (.int w1), .val (.int l2), .val (.int m2), .val (.int ph2), .val (.int w2), .val (.ref b481), .val (.int (poV Cq503 (4 : Int32))), .val (.int (poV Cq504 (3 : Int32))), .val (.int (poV Cq505 (2 : Int32))), .val (.int (poV Cq506 (1 : Int32))), .val (.int (poV Cq507 (0 : Int32))), .unset, .unset, .unset, .unset, .unset] []))
                refine OGets.step (fun _ => XS.iconst X537.here hx rfl (hb hby at_290)) ?_
                refine OGets.step (fun _ => XS.iload X537.here hx rfl (hb hby at_291) rfl) ?_
                refine OGets.step (fun _ => XS.iload X537.here hx rfl (hb hby at_293) rfl) ?_
                refine OGets.step (fun _ => XS.iload X537.here hx rfl (hb hby at_295) rfl) ?_
                refine OGets.step (fun _ => XS.iload X537.here hx rfl (hb hby at_297) rfl) ?_
                refine OGets.step (fun _ => XS.iload X537.here hx rfl (hb hby at_299) rfl) ?_
                obtain ⟨_, _, ⟨T539, L539, k539, n539⟩, -, X539, ⟨Lc539, hQ539, l539, y539, z539⟩, st539⟩ := Jvm.LawKit.callS X537 hx (y := (⟨"com/example/pelt/pelt/StackCountsPopPinLaw", "held", "(IIIIII)Z"⟩ : MethodName)) hown (mvT hZ (hw _ (List.mem_of_getElem? (i := 77) rfl))) (mvT hZ (hw _ (List.mem_of_getElem? (i := 78) rfl))) (mvT hZ (hw _ (List.mem_of_getElem? (i := 79) rfl))) (mvT hZ (hw _ (List.mem_of_getElem? (i := 80) rfl))) (by decide) (backOf (W := 0) (rm_held l Z a0 hw [] (4 : Int32) l2 m2 per ph2 w2 T508.heap n0  Z508 (own_nz hP)) hZ (hw _ (List.mem_of_getElem? (i := 80) rfl)) (hw _ (List.mem_of_getElem? (i := 79) rfl)) (by decide) (by decide)) (g := (mkF m 301 #[.val (.int p0), .val (.int p1), .val (.int p2), .val (.int p3), .val (.int p4), .val (.int p5), .val (.int per), .val (.int l1), .val (.int m1), .val (.int ph1), .val (.int w1), .val (.int l2), .val (.int m2), .val (.int ph2), .val (.int w2), .val (.ref b481), .val (.int (poV Cq503 (4 : Int32))), .val (.int (poV Cq504 (3 : Int32))), .val (.int (poV Cq505 (2 : Int32))), .val (.int (poV Cq506 (1 : Int32))), .val (.int (poV Cq507 (0 : Int32))), .unset, .unset, .unset, .unset, .unset] [(.int w2), (.int ph2), (.int per), (.int m2), (.int l2), (.int 4)])) rfl (by rw [hml]; rfl) (argsL := [(.int 4), (.int l2), (.int m2), (.int per), (.int ph2), (.int w2)]) (rest := []) (lenOf pd_18 rfl) rfl (by show 2 * 0 + _ ≤ _; exact Nat.le_of_eq rfl) (hb hby at_301) (fun _ _ => ⟨rfl, e537, Nat.le_of_ble_eq_true rfl, Nat.le_of_ble_eq_true rfl⟩)
                dsimp only [Pt.U, Pt.locs, Pt.cells, Pt.slots] at X539 l539 y539 z539 st539 hQ539
                rw [l539, y539, z539] at X539
                obtain ⟨rfl, rfl, e539⟩ := hQ539
                have N539 := Fr.app N537 (Fr.nil n0)
                refine OGets.step st539 ?_
                show OGets p e below _ (T539.setTop (mkF m 304 #[.val (.int p0), .val (.int p1), .val (.int p2), .val (.int p3), .val (.int p4), .val (.int p5), .val (.int per), .val (.int l1), .val (.int m1), .val (.int ph1), .val (.int w1), .val (.int l2), .val (.int m2), .val (.int ph2), .val (.int w2), .val (.ref b481), .val (.int (poV Cq503 (4 : Int32))), .val (.int (poV Cq504 (3 : Int32))), .val (.int (poV Cq505 (2 : Int32))), .val (.int (poV Cq506 (1 : Int32))), .val (.int (poV Cq507 (0 : Int32))), .unset, .unset, .unset, .unset, .unset] [(.int (f_held (4 : Int32) l2 m2 per ph2 w2))]))
                by_cases hc304_540 : (f_held (4 : Int32) l2 m2 per ph2 w2) = (0 : Int32)
                · refine OGets.step (fun _ => XS.ifYes X539.here hx rfl (pc0 := 304) (pc' := 311) rfl (hb hby at_304) rfl ((if0 _ _).trans (teq hc304_540).1) (by decide) (by decide)) ?_
                  show OGets p e below _ (T539.setTop (mkF m 311 #[.val (.int p0), .val (.int p1), .val (.int p2), .val (.int p3), .val (.int p4), .val (.int p5), .val (.int per), .val (.int l1), .val (.int m1), .val (.int ph1), .val (.int w1), .val (.int l2), .val (.int m2), .val (.int ph2), .val (.int w2), .val (.ref b481), .val (.int (poV Cq503 (4 : Int32))), .val (.int (poV Cq504 (3 : Int32))), .val (.int (poV Cq505 (2 : Int32))), .val (.int (poV Cq506 (1 : Int32))), .val (.int (poV Cq507 (0 : Int32))), .unset, .unset, .unset, .unset, .unset] []))
                  refine OGets.step (fun _ => XS.iconst X539.here hx rfl (hb hby at_311)) ?_
                  show OGets p e below _ (T539.setTop (mkF m 312 #[.val (.int p0), .val (.int p1), .val (.int p2), .val (.int p3), .val (.int p4), .val (.int p5), .val (.int per), .val (.int l1), .val (.int m1), .val (.int ph1), .val (.int w1), .val (.int l2), .val (.int m2), .val (.int ph2), .val (.int w2), .val (.ref b481), .val (.int (poV Cq503 (4 : Int32))), .val (.int (poV Cq504 (3 : Int32))), .val (.int (poV Cq505 (2 : Int32))), .val (.int (poV Cq506 (1 : Int32))), .val (.int (poV Cq507 (0 : Int32))), .unset, .unset, .unset, .unset, .unset] [(.int 0)]))
                  have ke : (eF (4 : Int32) per l1 m1 ph1 w1 l2 m2 ph2 w2) = (0 : Int32) := (if_pos hc287_538).trans (if_pos hc304_540)
                  have kr := K509 _ _ X539 N539 (by rw [e539]; exact Z508) (by rw [e539]; exact V508v)
                  rw [ke] at kr
                  exact kr
                · refine OGets.step (fun _ => XS.ifNo X539.here hx rfl (hb hby at_304) rfl ((if0 _ _).trans (feq hc304_540).1)) ?_
                  show OGets p e below _ (T539.setTop (mkF m 307 #[.val (.int p0), .val (.int p1), .val (.int p2), .val (.int p3), .val (.int p4), .val (.int p5), .val (.int per), .val (.int l1), .val (.int m1), .val (.int ph1), .val (.int w1), .val (.int l2), .val (.int m2), .val (.int ph2), .val (.int w2), .val (.ref b481), .val (.int (poV Cq503 (4 : Int32))), .val (.int (poV Cq504 (3 : Int32))), .val (.int (poV Cq505 (2 : Int32))), .val (.int (poV Cq506 (1 : Int32))), .val (.int (poV Cq507 (0 : Int32))), .unset, .unset, .unset, .unset, .unset] []))
                  refine OGets.step (fun _ => XS.iconst X539.here hx rfl (hb hby at_307)) ?_
                  refine OGets.step (fun _ => XS.goto X539.here hx rfl (pc0 := 308) (pc' := 312) rfl (hb hby at_308) (by decide) (by decide)) ?_
                  show OGets p e below _ (T539.setTop (mkF m 312 #[.val (.int p0), .val (.int p1), .val (.int p2), .val (.int p3), .val (.int p4), .val (.int p5), .val (.int per), .val (.int l1), .val (.int m1), .val (.int ph1), .val (.int w1), .val (.int l2), .val (.int m2), .val (.int ph2), .val (.int w2), .val (.ref b481), .val (.int (poV Cq503 (4 : Int32))), .val (.int (poV Cq504 (3 : Int32))), .val (.int (poV Cq505 (2 : Int32))), .val (.int (poV Cq506 (1 : Int32))), .val (.int (poV Cq507 (0 : Int32))), .unset, .unset, .unset, .unset, .unset] [(.int 1)]))
                  have ke : (eF (4 : Int32) per l1 m1 ph1 w1 l2 m2 ph2 w2) = (1 : Int32) := (if_pos hc287_538).trans (if_neg hc304_540)
                  have kr := K509 _ _ X539 N539 (by rw [e539]; exact Z508) (by rw [e539]; exact V508v)
                  rw [ke] at kr
                  exact kr
              · refine OGets.step (fun _ => XS.ifYes X537.here hx rfl (pc0 := 287) (pc' := 307) rfl (hb hby at_287) rfl ((if0 _ _).trans (feq hc287_538).2) (by decide) (by decide)) ?_
                show OGets p e below _ (T537.setTop (mkF m 307 #[.val (.int p0), .val (.int p1), .val (.int p2), .val (.int p3), .val (.int p4), .val (.int p5), .val (.int per), .val (.int l1), .val (.int m1), .val (.int ph1), .val (.int w1), .val (.int l2), .val (.int m2), .val (.int ph2), .val (.int w2), .val (.ref b481), .val (.int (poV Cq503 (4 : Int32))), .val (.int (poV Cq504 (3 : Int32))), .val (.int (poV Cq505 (2 : Int32))), .val (.int (poV Cq506 (1 : Int32))), .val (.int (poV Cq507 (0 : Int32))), .unset, .unset, .unset, .unset, .unset] []))
                refine OGets.step (fun _ => XS.iconst X537.here hx rfl (hb hby at_307)) ?_
                refine OGets.step (fun _ => XS.goto X537.here hx rfl (pc0 := 308) (pc' := 312) rfl (hb hby at_308) (by decide) (by decide)) ?_
                show OGets p e below _ (T537.setTop (mkF m 312 #[.val (.int p0), .val (.int p1), .val (.int p2), .val (.int p3), .val (.int p4), .val (.int p5), .val (.int per), .val (.int l1), .val (.int m1), .val (.int ph1), .val (.int w1), .val (.int l2), .val (.int m2), .val (.int ph2), .val (.int w2), .val (.ref b481), .val (.int (poV Cq503 (4 : Int32))), .val (.int (poV Cq504 (3 : Int32))), .val (.int (poV Cq505 (2 : Int32))), .val (.int (poV Cq506 (1 : Int32))), .val (.int (poV Cq507 (0 : Int32))), .unset, .unset, .unset, .unset, .unset] [(.int 1)]))
                have ke : (eF (4 : Int32) per l1 m1 ph1 w1 l2 m2 ph2 w2) = (1 : Int32) := if_neg hc287_538
                have kr := K509 _ _ X537 N537 (by rw [e537]; exact Z508) (by rw [e537]; exact V508v)
                rw [ke] at kr
                exact kr
            refine OGets.step (fun _ => XS.iload X494.here hx rfl (hb hby at_178) rfl) ?_
            refine OGets.step (fun _ => XS.bipush X494.here hx rfl (hb hby at_180)) ?_
            refine OGets.step (fun _ => XS.iand X494.here hx rfl (hb hby at_182) rfl) ?_
            by_cases hc183_541 : (p5 &&& (16 : Int32)) = (0 : Int32)
            · refine OGets.step (fun _ => XS.ifYes X494.here hx rfl (pc0 := 183) (pc' := 190) rfl (hb hby at_183) rfl ((if0 _ _).trans (teq hc183_541).1) (by decide) (by decide)) ?_
              show OGets p e below _ (T494.setTop (mkF m 190 #[.val (.int p0), .val (.int p1), .val (.int p2), .val (.int p3), .val (.int p4), .val (.int p5), .val (.int per), .val (.int l1), .val (.int m1), .val (.int ph1), .val (.int w1), .val (.int l2), .val (.int m2), .val (.int ph2), .val (.int w2), .val (.ref b481), .unset, .unset, .unset, .unset, .unset, .unset, .unset, .unset, .unset, .unset] [(.ref b481)]))
              refine OGets.step (fun _ => XS.iconst X494.here hx rfl (hb hby at_190)) ?_
              show OGets p e below _ (T494.setTop (mkF m 191 #[.val (.int p0), .val (.int p1), .val (.int p2), .val (.int p3), .val (.int p4), .val (.int p5), .val (.int per), .val (.int l1), .val (.int m1), .val (.int ph1), .val (.int w1), .val (.int l2), .val (.int m2), .val (.int ph2), .val (.int w2), .val (.ref b481), .unset, .unset, .unset, .unset, .unset, .unset, .unset, .unset, .unset, .unset] [(.int 0), (.ref b481)]))
              exact K496 _ _ (0 : Int32) X494 N494 Z494 V494v
            · refine OGets.step (fun _ => XS.ifNo X494.here hx rfl (hb hby at_183) rfl ((if0 _ _).trans (feq hc183_541).1)) ?_
              show OGets p e below _ (T494.setTop (mkF m 186 #[.val (.int p0), .val (.int p1), .val (.int p2), .val (.int p3), .val (.int p4), .val (.int p5), .val (.int per), .val (.int l1), .val (.int m1), .val (.int ph1), .val (.int w1), .val (.int l2), .val (.int m2), .val (.int ph2), .val (.int w2), .val (.ref b481), .unset, .unset, .unset, .unset, .unset, .unset, .unset, .unset, .unset, .unset] [(.ref b481)]))
              refine OGets.step (fun _ => XS.iconst X494.here hx rfl (hb hby at_186)) ?_
              refine OGets.step (fun _ => XS.goto X494.here hx rfl (pc0 := 187) (pc' := 191) rfl (hb hby at_187) (by decide) (by decide)) ?_
              show OGets p e below _ (T494.setTop (mkF m 191 #[.val (.int p0), .val (.int p1), .val (.int p2), .val (.int p3), .val (.int p4), .val (.int p5), .val (.int per), .val (.int l1), .val (.int m1), .val (.int ph1), .val (.int w1), .val (.int l2), .val (.int m2), .val (.int ph2), .val (.int w2), .val (.ref b481), .unset, .unset, .unset, .unset, .unset, .unset, .unset, .unset, .unset, .unset] [(.int 1), (.ref b481)]))
              exact K496 _ _ (1 : Int32) X494 N494 Z494 V494v
          refine OGets.step (fun _ => XS.iload X491.here hx rfl (hb hby at_160) rfl) ?_
          refine OGets.step (fun _ => XS.bipush X491.here hx rfl (hb hby at_162)) ?_
          refine OGets.step (fun _ => XS.iand X491.here hx rfl (hb hby at_164) rfl) ?_
          by_cases hc165_542 : (p5 &&& (8 : Int32)) = (0 : Int32)
          · refine OGets.step (fun _ => XS.ifYes X491.here hx rfl (pc0 := 165) (pc' := 172) rfl (hb hby at_165) rfl ((if0 _ _).trans (teq hc165_542).1) (by decide) (by decide)) ?_
            show OGets p e below _ (T491.setTop (mkF m 172 #[.val (.int p0), .val (.int p1), .val (.int p2), .val (.int p3), .val (.int p4), .val (.int p5), .val (.int per), .val (.int l1), .val (.int m1), .val (.int ph1), .val (.int w1), .val (.int l2), .val (.int m2), .val (.int ph2), .val (.int w2), .val (.ref b481), .unset, .unset, .unset, .unset, .unset, .unset, .unset, .unset, .unset, .unset] [(.ref b481)]))
            refine OGets.step (fun _ => XS.iconst X491.here hx rfl (hb hby at_172)) ?_
            show OGets p e below _ (T491.setTop (mkF m 173 #[.val (.int p0), .val (.int p1), .val (.int p2), .val (.int p3), .val (.int p4), .val (.int p5), .val (.int per), .val (.int l1), .val (.int m1), .val (.int ph1), .val (.int w1), .val (.int l2), .val (.int m2), .val (.int ph2), .val (.int w2), .val (.ref b481), .unset, .unset, .unset, .unset, .unset, .unset, .unset, .unset, .unset, .unset] [(.int 0), (.ref b481)]))
            exact K493 _ _ (0 : Int32) X491 N491 Z491 V491v
          · refine OGets.step (fun _ => XS.ifNo X491.here hx rfl (hb hby at_165) rfl ((if0 _ _).trans (feq hc165_542).1)) ?_
            show OGets p e below _ (T491.setTop (mkF m 168 #[.val (.int p0), .val (.int p1), .val (.int p2), .val (.int p3), .val (.int p4), .val (.int p5), .val (.int per), .val (.int l1), .val (.int m1), .val (.int ph1), .val (.int w1), .val (.int l2), .val (.int m2), .val (.int ph2), .val (.int w2), .val (.ref b481), .unset, .unset, .unset, .unset, .unset, .unset, .unset, .unset, .unset, .unset] [(.ref b481)]))
            refine OGets.step (fun _ => XS.iconst X491.here hx rfl (hb hby at_168)) ?_
            refine OGets.step (fun _ => XS.goto X491.here hx rfl (pc0 := 169) (pc' := 173) rfl (hb hby at_169) (by decide) (by decide)) ?_
            show OGets p e below _ (T491.setTop (mkF m 173 #[.val (.int p0), .val (.int p1), .val (.int p2), .val (.int p3), .val (.int p4), .val (.int p5), .val (.int per), .val (.int l1), .val (.int m1), .val (.int ph1), .val (.int w1), .val (.int l2), .val (.int m2), .val (.int ph2), .val (.int w2), .val (.ref b481), .unset, .unset, .unset, .unset, .unset, .unset, .unset, .unset, .unset, .unset] [(.int 1), (.ref b481)]))
            exact K493 _ _ (1 : Int32) X491 N491 Z491 V491v
        refine OGets.step (fun _ => XS.iload X488.here hx rfl (hb hby at_143) rfl) ?_
        refine OGets.step (fun _ => XS.iconst X488.here hx rfl (hb hby at_145)) ?_
        refine OGets.step (fun _ => XS.iand X488.here hx rfl (hb hby at_146) rfl) ?_
        by_cases hc147_543 : (p5 &&& (4 : Int32)) = (0 : Int32)
        · refine OGets.step (fun _ => XS.ifYes X488.here hx rfl (pc0 := 147) (pc' := 154) rfl (hb hby at_147) rfl ((if0 _ _).trans (teq hc147_543).1) (by decide) (by decide)) ?_
          show OGets p e below _ (T488.setTop (mkF m 154 #[.val (.int p0), .val (.int p1), .val (.int p2), .val (.int p3), .val (.int p4), .val (.int p5), .val (.int per), .val (.int l1), .val (.int m1), .val (.int ph1), .val (.int w1), .val (.int l2), .val (.int m2), .val (.int ph2), .val (.int w2), .val (.ref b481), .unset, .unset, .unset, .unset, .unset, .unset, .unset, .unset, .unset, .unset] [(.ref b481)]))
          refine OGets.step (fun _ => XS.iconst X488.here hx rfl (hb hby at_154)) ?_
          show OGets p e below _ (T488.setTop (mkF m 155 #[.val (.int p0), .val (.int p1), .val (.int p2), .val (.int p3), .val (.int p4), .val (.int p5), .val (.int per), .val (.int l1), .val (.int m1), .val (.int ph1), .val (.int w1), .val (.int l2), .val (.int m2), .val (.int ph2), .val (.int w2), .val (.ref b481), .unset, .unset, .unset, .unset, .unset, .unset, .unset, .unset, .unset, .unset] [(.int 0), (.ref b481)]))
          exact K490 _ _ (0 : Int32) X488 N488 Z488 V488v
        · refine OGets.step (fun _ => XS.ifNo X488.here hx rfl (hb hby at_147) rfl ((if0 _ _).trans (feq hc147_543).1)) ?_
          show OGets p e below _ (T488.setTop (mkF m 150 #[.val (.int p0), .val (.int p1), .val (.int p2), .val (.int p3), .val (.int p4), .val (.int p5), .val (.int per), .val (.int l1), .val (.int m1), .val (.int ph1), .val (.int w1), .val (.int l2), .val (.int m2), .val (.int ph2), .val (.int w2), .val (.ref b481), .unset, .unset, .unset, .unset, .unset, .unset, .unset, .unset, .unset, .unset] [(.ref b481)]))
          refine OGets.step (fun _ => XS.iconst X488.here hx rfl (hb hby at_150)) ?_
          refine OGets.step (fun _ => XS.goto X488.here hx rfl (pc0 := 151) (pc' := 155) rfl (hb hby at_151) (by decide) (by decide)) ?_
          show OGets p e below _ (T488.setTop (mkF m 155 #[.val (.int p0), .val (.int p1), .val (.int p2), .val (.int p3), .val (.int p4), .val (.int p5), .val (.int per), .val (.int l1), .val (.int m1), .val (.int ph1), .val (.int w1), .val (.int l2), .val (.int m2), .val (.int ph2), .val (.int w2), .val (.ref b481), .unset, .unset, .unset, .unset, .unset, .unset, .unset, .unset, .unset, .unset] [(.int 1), (.ref b481)]))
          exact K490 _ _ (1 : Int32) X488 N488 Z488 V488v
      refine OGets.step (fun _ => XS.iload X485.here hx rfl (hb hby at_126) rfl) ?_
      refine OGets.step (fun _ => XS.iconst X485.here hx rfl (hb hby at_128)) ?_
      refine OGets.step (fun _ => XS.iand X485.here hx rfl (hb hby at_129) rfl) ?_
      by_cases hc130_544 : (p5 &&& (2 : Int32)) = (0 : Int32)
      · refine OGets.step (fun _ => XS.ifYes X485.here hx rfl (pc0 := 130) (pc' := 137) rfl (hb hby at_130) rfl ((if0 _ _).trans (teq hc130_544).1) (by decide) (by decide)) ?_
        show OGets p e below _ (T485.setTop (mkF m 137 #[.val (.int p0), .val (.int p1), .val (.int p2), .val (.int p3), .val (.int p4), .val (.int p5), .val (.int per), .val (.int l1), .val (.int m1), .val (.int ph1), .val (.int w1), .val (.int l2), .val (.int m2), .val (.int ph2), .val (.int w2), .val (.ref b481), .unset, .unset, .unset, .unset, .unset, .unset, .unset, .unset, .unset, .unset] [(.ref b481)]))
        refine OGets.step (fun _ => XS.iconst X485.here hx rfl (hb hby at_137)) ?_
        show OGets p e below _ (T485.setTop (mkF m 138 #[.val (.int p0), .val (.int p1), .val (.int p2), .val (.int p3), .val (.int p4), .val (.int p5), .val (.int per), .val (.int l1), .val (.int m1), .val (.int ph1), .val (.int w1), .val (.int l2), .val (.int m2), .val (.int ph2), .val (.int w2), .val (.ref b481), .unset, .unset, .unset, .unset, .unset, .unset, .unset, .unset, .unset, .unset] [(.int 0), (.ref b481)]))
        exact K487 _ _ (0 : Int32) X485 N485 Z485 V485v
      · refine OGets.step (fun _ => XS.ifNo X485.here hx rfl (hb hby at_130) rfl ((if0 _ _).trans (feq hc130_544).1)) ?_
        show OGets p e below _ (T485.setTop (mkF m 133 #[.val (.int p0), .val (.int p1), .val (.int p2), .val (.int p3), .val (.int p4), .val (.int p5), .val (.int per), .val (.int l1), .val (.int m1), .val (.int ph1), .val (.int w1), .val (.int l2), .val (.int m2), .val (.int ph2), .val (.int w2), .val (.ref b481), .unset, .unset, .unset, .unset, .unset, .unset, .unset, .unset, .unset, .unset] [(.ref b481)]))
        refine OGets.step (fun _ => XS.iconst X485.here hx rfl (hb hby at_133)) ?_
        refine OGets.step (fun _ => XS.goto X485.here hx rfl (pc0 := 134) (pc' := 138) rfl (hb hby at_134) (by decide) (by decide)) ?_
        show OGets p e below _ (T485.setTop (mkF m 138 #[.val (.int p0), .val (.int p1), .val (.int p2), .val (.int p3), .val (.int p4), .val (.int p5), .val (.int per), .val (.int l1), .val (.int m1), .val (.int ph1), .val (.int w1), .val (.int l2), .val (.int m2), .val (.int ph2), .val (.int w2), .val (.ref b481), .unset, .unset, .unset, .unset, .unset, .unset, .unset, .unset, .unset, .unset] [(.int 1), (.ref b481)]))
        exact K487 _ _ (1 : Int32) X485 N485 Z485 V485v
    show OGets p e below _ (T482.setTop (mkF m 109 #[.val (.int p0), .val (.int p1), .val (.int p2), .val (.int p3), .val (.int p4), .val (.int p5), .val (.int per), .val (.int l1), .val (.int m1), .val (.int ph1), .val (.int w1), .val (.int l2), .val (.int m2), .val (.int ph2), .val (.int w2), .val (.ref b481), .unset, .unset, .unset, .unset, .unset, .unset, .unset, .unset, .unset, .unset] [(.ref b481)]))
    refine OGets.step (fun _ => XS.iload X482.here hx rfl (hb hby at_109) rfl) ?_
    refine OGets.step (fun _ => XS.iconst X482.here hx rfl (hb hby at_111)) ?_
    refine OGets.step (fun _ => XS.iand X482.here hx rfl (hb hby at_112) rfl) ?_
    by_cases hc113_545 : (p5 &&& (1 : Int32)) = (0 : Int32)
    · refine OGets.step (fun _ => XS.ifYes X482.here hx rfl (pc0 := 113) (pc' := 120) rfl (hb hby at_113) rfl ((if0 _ _).trans (teq hc113_545).1) (by decide) (by decide)) ?_
      show OGets p e below _ (T482.setTop (mkF m 120 #[.val (.int p0), .val (.int p1), .val (.int p2), .val (.int p3), .val (.int p4), .val (.int p5), .val (.int per), .val (.int l1), .val (.int m1), .val (.int ph1), .val (.int w1), .val (.int l2), .val (.int m2), .val (.int ph2), .val (.int w2), .val (.ref b481), .unset, .unset, .unset, .unset, .unset, .unset, .unset, .unset, .unset, .unset] [(.ref b481)]))
      refine OGets.step (fun _ => XS.iconst X482.here hx rfl (hb hby at_120)) ?_
      show OGets p e below _ (T482.setTop (mkF m 121 #[.val (.int p0), .val (.int p1), .val (.int p2), .val (.int p3), .val (.int p4), .val (.int p5), .val (.int per), .val (.int l1), .val (.int m1), .val (.int ph1), .val (.int w1), .val (.int l2), .val (.int m2), .val (.int ph2), .val (.int w2), .val (.ref b481), .unset, .unset, .unset, .unset, .unset, .unset, .unset, .unset, .unset, .unset] [(.int 0), (.ref b481)]))
      exact K484 _ _ (0 : Int32) X482 N482 Z482 V482v
    · refine OGets.step (fun _ => XS.ifNo X482.here hx rfl (hb hby at_113) rfl ((if0 _ _).trans (feq hc113_545).1)) ?_
      show OGets p e below _ (T482.setTop (mkF m 116 #[.val (.int p0), .val (.int p1), .val (.int p2), .val (.int p3), .val (.int p4), .val (.int p5), .val (.int per), .val (.int l1), .val (.int m1), .val (.int ph1), .val (.int w1), .val (.int l2), .val (.int m2), .val (.int ph2), .val (.int w2), .val (.ref b481), .unset, .unset, .unset, .unset, .unset, .unset, .unset, .unset, .unset, .unset] [(.ref b481)]))
      refine OGets.step (fun _ => XS.iconst X482.here hx rfl (hb hby at_116)) ?_
      refine OGets.step (fun _ => XS.goto X482.here hx rfl (pc0 := 117) (pc' := 121) rfl (hb hby at_117) (by decide) (by decide)) ?_
      show OGets p e below _ (T482.setTop (mkF m 121 #[.val (.int p0), .val (.int p1), .val (.int p2), .val (.int p3), .val (.int p4), .val (.int p5), .val (.int per), .val (.int l1), .val (.int m1), .val (.int ph1), .val (.int w1), .val (.int l2), .val (.int m2), .val (.int ph2), .val (.int w2), .val (.ref b481), .unset, .unset, .unset, .unset, .unset, .unset, .unset, .unset, .unset, .unset] [(.int 1), (.ref b481)]))
      exact K484 _ _ (1 : Int32) X482 N482 Z482 V482v
set_option maxRecDepth 65536 in
set_option maxHeartbeats 40000000 in
theorem comes_1 {Post : Tables → Env → Array Value → State → Outcome → State → Prop} (hpost : ∀ tb e args s v u, (limb_1_1.after args s (.returned v) u = true ∧ limb_1_2.after args s (.returned v) u = true ∧ True) → FrameEnd s (.returned v) u (Jvm.fieldLocs frame_1_writes args s ++ Jvm.arrayLocs frame_1_arrays args s ++ Jvm.staticLocs frame_1_statics s) 32 192 → Post tb e args s (.returned v) u) :
    ArmFor flags0 classFile x code maxLocals ret World_1 tables_1 room_1 Calls_1 rest_1 Pre_1 Post := by
  intro l hfl _ _ p e ha hc hk s m args below hf hA hF happ hP
  obtain ⟨hcalls, hrest, hpre⟩ := hP
  obtain ⟨-, -, -, hnamed, -, -, -, hat⟩ := (Spec.applies_iff hf).mp happ
  obtain ⟨hg, hn⟩ := and_e (Cond.before_iff.mp (show (Jvm.Cond.and given_1 narrow_1).before args s = true from hpre))
  obtain ⟨hcount, hg0⟩ := and_e hg
  obtain ⟨ga0, hg1⟩ := and_e hg0
  obtain ⟨ga1, hg2⟩ := and_e hg1
  obtain ⟨ga2, hg3⟩ := and_e hg2
  obtain ⟨ga3, hg4⟩ := and_e hg3
  obtain ⟨ga4, hg5⟩ := and_e hg4
  have ga5 := hg5
  obtain ⟨w0, w1, w2, w3, w4, w5, rfl⟩ : ∃ w0 w1 w2 w3 w4 w5 : Value, args = #[w0, w1, w2, w3, w4, w5] := by
    have hs : args.size = 6 := by simpa [Cond.value, given_1] using hcount
    obtain ⟨L⟩ := args
    match L, hs with
    | [w0, w1, w2, w3, w4, w5], _ => exact ⟨w0, w1, w2, w3, w4, w5, rfl⟩
  have hw := fun d (hd : d ∈ tables_1) => atoms_spec (ws := Jvm.Cond.code x code maxLocals ret :: tables_1) hat d (List.mem_cons_of_mem _ hd)
  have hfit : Fit s := fun {y c} hc i hi => by
    obtain ⟨ha, rfl⟩ := Array.getElem?_eq_some_iff.mp hc
    have q := List.all_eq_true.mp ((Array.all_eq_true_iff_forall_mem.mp hF) _ (Array.getElem_mem ha)) i (List.mem_range.mpr hi)
    simpa [Array.getElem?_eq_getElem hi] using q
  obtain ⟨i0, ei0⟩ := is_v ga0
  obtain rfl : w0 = (.int i0) := Option.some.inj ei0
  obtain ⟨i1, ei1⟩ := is_v ga1
  obtain rfl : w1 = (.int i1) := Option.some.inj ei1
  obtain ⟨i2, ei2⟩ := is_v ga2
  obtain rfl : w2 = (.int i2) := Option.some.inj ei2
  obtain ⟨i3, ei3⟩ := is_v ga3
  obtain rfl : w3 = (.int i3) := Option.some.inj ei3
  obtain ⟨i4, ei4⟩ := is_v ga4
  obtain rfl : w4 = (.int i4) := Option.some.inj ei4
  obtain ⟨i5, ei5⟩ := is_v ga5
  obtain rfl : w5 = (.int i5) := Option.some.inj ei5
  obtain ⟨n, o, h1, h2, h3, _, L, rfl, ⟨rfl, N⟩, hq⟩ := rm_law l s _ hw tables_1 i0 i1 i2 i3 i4 i5 s.heap s.heap.size (Nat.le_refl _)  (OView.nil _ _ _) p e ha hc hk s m _ below hf ((Spec.applies_iff_loose hf).mp happ).1 ⟨rfl, State.Warmed39.refl s, rfl⟩ trivial
  refine ⟨n, _, h1, h2, h3, hpost _ _ _ _ _ _ ⟨Cond.after_iff.mpr rfl, Cond.after_iff.mpr (eq_i res_at (Term.int_eval (1)) rfl), trivial⟩ ⟨hq.1, hq.2.1, (hq.2.2.sift fun y hy => Or.inr (N y hy)).mono (by decide) (by decide)⟩⟩
theorem main_1_1 : Claimed_1_1 := comes_1 fun _ _ _ _ _ _ h hF => ⟨h.1, hF⟩
theorem main_1_2 : Claimed_1_2 := comes_1 fun _ _ _ _ _ _ h hF => ⟨h.2.1, hF⟩
end Jvm.Pilot.@@N@@
namespace Jvm.Pilot.@@N@@
open Jvm Jvm.ClassFile Sem Op Lib Jvm.Free Jvm.Stand Jvm.Pilot.@@N@@.Jvm.D
/-! MADE BY PROGRAM (witnessworld.py) out of the Statement's table words and the real class files: 16 classes; the members and pool entries that the words name. The judged class is class 1, her method 3. -/
namespace start1
open Jvm.ClassFile
def u (s : String) : CpInfo := .utf8 (stringToUtf16 s)
/-- a pool by its gaps: so many unusable entries, then the entry; so many at the end -/
def gap : Nat → List CpInfo → List CpInfo
  | 0, r => r
  | n + 1, r => .unusable :: gap n r
def poolList (es : List (Nat × CpInfo)) (last : Nat) : List CpInfo := es.foldr (fun e r => gap e.1 (e.2 :: r)) (gap last [])
def pool (es : List (Nat × CpInfo)) (last : Nat) : Array CpInfo := ⟨poolList es last⟩
def fileOf (pool : Array CpInfo) (this : Nat) (attrs : Array Attribute := #[]) (ms : Array MethodInfo := #[]) (fl : Nat := 33) (sup : Nat := 0) (ifs : Array Nat := #[]) (fds : Array FieldInfo := #[]) : ClassFile where
  minorVersion := 0
  majorVersion := 65
  constantPool := pool
  accessFlags := fl
  thisClass := this
  superClass := sup
  interfaces := ifs
  fields := fds
  methods := ms
  attributes := attrs
def plain (name : String) (sup : Option ClassId) : Class where
  name := name
  kind := .ordinary
  loader := none
  accessFlags := 33
  super := sup
  interfaces := #[]
  cf := none
  fields := #[]
  methods := #[]
  instanceTypes := #[]
  staticTypes := #[]
  resolved := #[]
  callSites := []
  init := .initialized
  statics := none
  mirror := none

def pool0 : Array CpInfo := pool [(5, u "<init>"), (0, u "()V"), (1, .class_ 10), (1, u "java/lang/Object")] 113

def k0c0 : Code := { maxStack := 0, maxLocals := 1, code := object_method_1_code, exceptionTable := #[], attributes := #[] }
def k0m0 : Method := { name := "<init>", desc := "()V", sig := { parameters := [], returnType := none }, accessFlags := 1, code := some k0c0 }
/-- java/lang/Object -/
def k0 : Class := { plain "java/lang/Object" none with
  accessFlags := 33
  interfaces := #[]
  cf := some (fileOf pool0 8 #[] #[{ accessFlags := 1, nameIndex := 5, descriptorIndex := 6, attributes := #[] }] 33 0 #[] #[])
  fields := #[]
  methods := #[k0m0]
  instanceTypes := #[]
  staticTypes := #[]
  resolved := Array.replicate 124 none
  statics := none }

def pool1 : Array CpInfo := pool [(2, .class_ 4), (1, u "java/lang/Object"), (0, u "<init>"), (0, u "()V"), (0, .methodref 8 9), (0, .class_ 10), (0, .nameAndType 11 12), (0, u "com/example/pelt/pelt/StackCountsPopPinLaw"), (0, u "mod"), (0, u "(II)I"), (0, .integer 2147483647), (0, .integer 65535), (0, .class_ 16), (0, u "com/example/pelt/pelt/StackCounts"), (0, .methodref 15 18), (0, .nameAndType 5 19), (0, u "(II)V"), (0, .methodref 15 21), (0, .nameAndType 22 23), (0, u "push"), (0, u "(Z)V"), (0, .class_ 25), (0, u "com/example/pelt/pelt/Strand"), (0, .methodref 24 27), (0, .nameAndType 5 28), (0, u "(IIIII)V"), (0, .methodref 15 30), (0, .nameAndType 31 32), (0, u "cover"), (0, u "(Lcom/example/pelt/pelt/Strand;)V"), (0, .methodref 15 34), (0, .nameAndType 35 36), (0, u "pop"), (0, u "()Z"), (0, .methodref 8 38), (0, .nameAndType 39 40), (0, u "held"), (0, u "(IIIIII)Z"), (0, .methodref 15 42), (0, .nameAndType 43 44), (0, u "height"), (0, u "()I"), (3, u "law")] 2

def k1m0 : Method := { name := "<init>", desc := "()V", sig := { parameters := [], returnType := none }, accessFlags := 1, code := none }
def k1c1 : Code := { maxStack := 2, maxLocals := 3, code := method_2_code, exceptionTable := #[], attributes := #[] }
def k1m1 : Method := { name := "mod", desc := "(II)I", sig := { parameters := [.int, .int], returnType := some .int }, accessFlags := 10, code := some k1c1 }
def k1c2 : Code := { maxStack := 2, maxLocals := 6, code := method_3_code, exceptionTable := #[], attributes := #[] }
def k1m2 : Method := { name := "held", desc := "(IIIIII)Z", sig := { parameters := [.int, .int, .int, .int, .int, .int], returnType := some .boolean }, accessFlags := 10, code := some k1c2 }
def k1c3 : Code := { maxStack := 8, maxLocals := 26, code := code, exceptionTable := #[], attributes := #[] }
def k1m3 : Method := { name := "law", desc := "(IIIIII)Z", sig := { parameters := [.int, .int, .int, .int, .int, .int], returnType := some .boolean }, accessFlags := 9, code := some k1c3 }
/-- com/example/pelt/pelt/StackCountsPopPinLaw -/
def k1 : Class := { plain "com/example/pelt/pelt/StackCountsPopPinLaw" (some 0) with
  accessFlags := 49
  interfaces := #[]
  cf := some (fileOf pool1 8 #[] #[{ accessFlags := 1, nameIndex := 5, descriptorIndex := 6, attributes := #[] }, { accessFlags := 10, nameIndex := 11, descriptorIndex := 12, attributes := #[] }, { accessFlags := 10, nameIndex := 39, descriptorIndex := 40, attributes := #[] }, { accessFlags := 9, nameIndex := 48, descriptorIndex := 40, attributes := #[] }] 49 2 #[] #[])
  fields := #[]
  methods := #[k1m0, k1m1, k1m2, k1m3]
  instanceTypes := #[]
  staticTypes := #[]
  resolved := Array.replicate 51 none
  statics := none }

def pool2 : Array CpInfo := pool [(1, .methodref 2 3), (0, .class_ 4), (0, .nameAndType 5 6), (0, u "java/lang/Object"), (0, u "<init>"), (0, u "()V"), (0, .fieldref 8 9), (0, .class_ 10), (0, .nameAndType 11 12), (0, u "com/example/pelt/pelt/StackCounts"), (0, u "period"), (0, u "I"), (0, .fieldref 8 14), (0, .nameAndType 15 16), (0, u "targetsUpTo"), (0, u "[I"), (0, .fieldref 8 18), (0, .nameAndType 19 16), (0, u "covering"), (0, .fieldref 8 21), (0, .nameAndType 22 16), (0, u "blockCovering"), (0, .fieldref 8 24), (0, .nameAndType 25 26), (0, u "targetsBelowEvery"), (0, u "[J"), (0, .fieldref 8 28), (0, .nameAndType 29 12), (0, u "height"), (0, .class_ 31), (0, u "com/example/pelt/pelt/StackCounts$1"), (1, .nameAndType 5 34), (0, u "(Lcom/example/pelt/pelt/StackCounts;Lcom/example/pelt/pelt/Strand;)V"), (0, .methodref 36 37), (0, .class_ 38), (0, .nameAndType 39 40), (0, u "com/example/pelt/pelt/Strand"), (0, u "split"), (0, u "(Lcom/example/pelt/pelt/Strand$Parts;)J"), (0, .class_ 42), (0, u "com/example/pelt/pelt/StackCounts$2"), (0, .methodref 41 33), (0, u "(II)V"), (5, u "()I"), (0, u "push"), (0, u "(Z)V"), (0, u "pop"), (0, u "()Z"), (2, u "cover"), (0, u "(Lcom/example/pelt/pelt/Strand;)V"), (0, u "mark"), (0, u "(III)V")] 9

def k2c0 : Code := { maxStack := 3, maxLocals := 3, code := prog_78_method_1_code, exceptionTable := #[], attributes := #[] }
def k2m0 : Method := { name := "<init>", desc := "(II)V", sig := { parameters := [.int, .int], returnType := none }, accessFlags := 0, code := some k2c0 }
def k2c1 : Code := { maxStack := 1, maxLocals := 1, code := prog_78_method_2_code, exceptionTable := #[], attributes := #[] }
def k2m1 : Method := { name := "height", desc := "()I", sig := { parameters := [], returnType := some .int }, accessFlags := 0, code := some k2c1 }
def k2c2 : Code := { maxStack := 7, maxLocals := 2, code := prog_78_method_3_code, exceptionTable := #[], attributes := #[] }
def k2m2 : Method := { name := "push", desc := "(Z)V", sig := { parameters := [.boolean], returnType := none }, accessFlags := 0, code := some k2c2 }
def k2c3 : Code := { maxStack := 5, maxLocals := 2, code := prog_78_method_4_code, exceptionTable := #[], attributes := #[] }
def k2m3 : Method := { name := "pop", desc := "()Z", sig := { parameters := [], returnType := some .boolean }, accessFlags := 0, code := some k2c3 }
def k2c4 : Code := { maxStack := 5, maxLocals := 2, code := prog_78_method_6_code, exceptionTable := #[], attributes := #[] }
def k2m4 : Method := { name := "cover", desc := "(Lcom/example/pelt/pelt/Strand;)V", sig := { parameters := [(.object "com/example/pelt/pelt/Strand")], returnType := none }, accessFlags := 0, code := some k2c4 }
def k2c5 : Code := { maxStack := 6, maxLocals := 6, code := prog_78_method_7_code, exceptionTable := #[], attributes := #[] }
def k2m5 : Method := { name := "mark", desc := "(III)V", sig := { parameters := [.int, .int, .int], returnType := none }, accessFlags := 2, code := some k2c5 }
/-- com/example/pelt/pelt/StackCounts -/
def k2 : Class := { plain "com/example/pelt/pelt/StackCounts" (some 0) with
  accessFlags := 32
  interfaces := #[]
  cf := some (fileOf pool2 8 #[.nestMembers #[41, 30]] #[{ accessFlags := 0, nameIndex := 5, descriptorIndex := 44, attributes := #[] }, { accessFlags := 0, nameIndex := 29, descriptorIndex := 50, attributes := #[] }, { accessFlags := 0, nameIndex := 51, descriptorIndex := 52, attributes := #[] }, { accessFlags := 0, nameIndex := 53, descriptorIndex := 54, attributes := #[] }, { accessFlags := 0, nameIndex := 57, descriptorIndex := 58, attributes := #[] }, { accessFlags := 2, nameIndex := 59, descriptorIndex := 60, attributes := #[] }] 32 2 #[] #[{ accessFlags := 18, nameIndex := 11, descriptorIndex := 12, attributes := #[] }, { accessFlags := 18, nameIndex := 15, descriptorIndex := 16, attributes := #[] }, { accessFlags := 18, nameIndex := 19, descriptorIndex := 16, attributes := #[] }, { accessFlags := 18, nameIndex := 22, descriptorIndex := 16, attributes := #[] }, { accessFlags := 18, nameIndex := 25, descriptorIndex := 26, attributes := #[] }, { accessFlags := 2, nameIndex := 29, descriptorIndex := 12, attributes := #[] }])
  fields := #[{ name := "period", type := .int, accessFlags := 18, slot := 0, constantValue := 0 }, { name := "targetsUpTo", type := (.array .int), accessFlags := 18, slot := 1, constantValue := 0 }, { name := "covering", type := (.array .int), accessFlags := 18, slot := 2, constantValue := 0 }, { name := "blockCovering", type := (.array .int), accessFlags := 18, slot := 3, constantValue := 0 }, { name := "targetsBelowEvery", type := (.array .long), accessFlags := 18, slot := 4, constantValue := 0 }, { name := "height", type := .int, accessFlags := 2, slot := 5, constantValue := 0 }]
  methods := #[k2m0, k2m1, k2m2, k2m3, k2m4, k2m5]
  instanceTypes := #[.int, (.array .int), (.array .int), (.array .int), (.array .long), .int]
  staticTypes := #[]
  resolved := Array.replicate 70 none
  statics := none }

def pool3 : Array CpInfo := pool [(1, .methodref 2 3), (0, .class_ 4), (0, .nameAndType 5 6), (0, u "java/lang/Object"), (0, u "<init>"), (0, u "()V"), (0, .class_ 8), (0, u "java/lang/Record")] 13

def k3c0 : Code := { maxStack := 1, maxLocals := 1, code := jdk_30_method_1_code, exceptionTable := #[], attributes := #[] }
def k3m0 : Method := { name := "<init>", desc := "()V", sig := { parameters := [], returnType := none }, accessFlags := 4, code := some k3c0 }
/-- java/lang/Record -/
def k3 : Class := { plain "java/lang/Record" (some 0) with
  accessFlags := 1057
  interfaces := #[]
  cf := some (fileOf pool3 7 #[] #[{ accessFlags := 4, nameIndex := 5, descriptorIndex := 6, attributes := #[] }] 1057 2 #[] #[])
  fields := #[]
  methods := #[k3m0]
  instanceTypes := #[]
  staticTypes := #[]
  resolved := Array.replicate 22 none
  statics := none }

def pool4 : Array CpInfo := pool [(1, .methodref 2 3), (0, .class_ 4), (0, .nameAndType 5 6), (0, u "java/lang/Record"), (0, u "<init>"), (0, u "()V"), (0, .fieldref 8 9), (0, .class_ 10), (0, .nameAndType 11 12), (0, u "com/example/pelt/pelt/Strand"), (0, u "least"), (0, u "I"), (0, .fieldref 8 14), (0, .nameAndType 15 12), (0, u "most"), (0, .fieldref 8 17), (0, .nameAndType 18 12), (0, u "period"), (0, .fieldref 8 20), (0, .nameAndType 21 12), (0, u "phase"), (0, .fieldref 8 23), (0, .nameAndType 24 12), (0, u "width"), (2, u "(IIIII)V"), (0, .methodref 29 30), (0, .class_ 31), (0, .nameAndType 32 33), (0, u "java/lang/Math"), (0, u "floorMod"), (0, u "(II)I"), (5, u "min"), (0, .interfaceMethodref 41 42), (0, .class_ 43), (0, .nameAndType 44 45), (0, u "com/example/pelt/pelt/Strand$Parts"), (0, u "range"), (0, u "(II)J"), (0, .methodref 29 47), (0, .nameAndType 39 48), (0, u "(JJ)J"), (0, .interfaceMethodref 41 50), (0, .nameAndType 51 45), (0, u "blocks"), (24, u "split"), (0, u "(Lcom/example/pelt/pelt/Strand$Parts;)J"), (1, u "()I")] 27

def k4c0 : Code := { maxStack := 2, maxLocals := 6, code := prog_84_method_1_code, exceptionTable := #[], attributes := #[] }
def k4m0 : Method := { name := "<init>", desc := "(IIIII)V", sig := { parameters := [.int, .int, .int, .int, .int], returnType := none }, accessFlags := 0, code := some k4c0 }
def k4c1 : Code := { maxStack := 8, maxLocals := 12, code := prog_84_method_8_code, exceptionTable := #[], attributes := #[] }
def k4m1 : Method := { name := "split", desc := "(Lcom/example/pelt/pelt/Strand$Parts;)J", sig := { parameters := [(.object "com/example/pelt/pelt/Strand$Parts")], returnType := some .long }, accessFlags := 0, code := some k4c1 }
def k4c2 : Code := { maxStack := 1, maxLocals := 1, code := prog_84_method_16_code, exceptionTable := #[], attributes := #[] }
def k4m2 : Method := { name := "width", desc := "()I", sig := { parameters := [], returnType := some .int }, accessFlags := 1, code := some k4c2 }
/-- com/example/pelt/pelt/Strand -/
def k4 : Class := { plain "com/example/pelt/pelt/Strand" (some 3) with
  accessFlags := 48
  interfaces := #[]
  cf := some (fileOf pool4 8 #[.nestMembers #[41]] #[{ accessFlags := 0, nameIndex := 5, descriptorIndex := 27, attributes := #[] }, { accessFlags := 0, nameIndex := 76, descriptorIndex := 77, attributes := #[] }, { accessFlags := 1, nameIndex := 24, descriptorIndex := 79, attributes := #[] }] 48 2 #[] #[{ accessFlags := 18, nameIndex := 11, descriptorIndex := 12, attributes := #[] }, { accessFlags := 18, nameIndex := 15, descriptorIndex := 12, attributes := #[] }, { accessFlags := 18, nameIndex := 18, descriptorIndex := 12, attributes := #[] }, { accessFlags := 18, nameIndex := 21, descriptorIndex := 12, attributes := #[] }, { accessFlags := 18, nameIndex := 24, descriptorIndex := 12, attributes := #[] }])
  fields := #[{ name := "least", type := .int, accessFlags := 18, slot := 0, constantValue := 0 }, { name := "most", type := .int, accessFlags := 18, slot := 1, constantValue := 0 }, { name := "period", type := .int, accessFlags := 18, slot := 2, constantValue := 0 }, { name := "phase", type := .int, accessFlags := 18, slot := 3, constantValue := 0 }, { name := "width", type := .int, accessFlags := 18, slot := 4, constantValue := 0 }]
  methods := #[k4m0, k4m1, k4m2]
  instanceTypes := #[.int, .int, .int, .int, .int]
  staticTypes := #[]
  resolved := Array.replicate 107 none
  statics := none }

def pool5 : Array CpInfo := pool [(1, .class_ 2), (0, u "com/example/pelt/pelt/Strand$Parts"), (0, .class_ 4), (0, u "java/lang/Object"), (0, u "range"), (0, u "(II)J"), (0, u "blocks"), (3, .class_ 12), (0, u "com/example/pelt/pelt/Strand")] 2

def k5m0 : Method := { name := "range", desc := "(II)J", sig := { parameters := [.int, .int], returnType := some .long }, accessFlags := 1025, code := none }
def k5m1 : Method := { name := "blocks", desc := "(II)J", sig := { parameters := [.int, .int], returnType := some .long }, accessFlags := 1025, code := none }
/-- com/example/pelt/pelt/Strand$Parts -/
def k5 : Class := { plain "com/example/pelt/pelt/Strand$Parts" (some 0) with
  accessFlags := 1536
  interfaces := #[]
  cf := some (fileOf pool5 1 #[.nestHost 11] #[{ accessFlags := 1025, nameIndex := 5, descriptorIndex := 6, attributes := #[] }, { accessFlags := 1025, nameIndex := 7, descriptorIndex := 6, attributes := #[] }] 1536 3 #[] #[])
  fields := #[]
  methods := #[k5m0, k5m1]
  instanceTypes := #[]
  staticTypes := #[]
  resolved := Array.replicate 15 none
  statics := none }

def pool6 : Array CpInfo := pool [(1, .fieldref 2 3), (0, .class_ 4), (0, .nameAndType 5 6), (0, u "com/example/pelt/pelt/StackCounts$2"), (0, u "this$0"), (0, u "Lcom/example/pelt/pelt/StackCounts;"), (0, .fieldref 2 8), (0, .nameAndType 9 10), (0, u "val$positions"), (0, u "Lcom/example/pelt/pelt/Strand;"), (0, .methodref 12 13), (0, .class_ 14), (0, .nameAndType 15 16), (0, u "java/lang/Object"), (0, u "<init>"), (0, u "()V"), (0, .fieldref 18 19), (0, .class_ 20), (0, .nameAndType 21 22), (0, u "com/example/pelt/pelt/StackCounts"), (0, u "covering"), (0, u "[I"), (0, .fieldref 18 24), (0, .nameAndType 25 26), (0, u "period"), (0, u "I"), (0, .methodref 28 29), (0, .class_ 30), (0, .nameAndType 31 32), (0, u "com/example/pelt/pelt/Strand"), (0, u "width"), (0, u "()I"), (0, .methodref 18 34), (0, .nameAndType 35 36), (0, u "mark"), (0, u "(III)V"), (0, .class_ 38), (0, u "com/example/pelt/pelt/Strand$Parts"), (0, u "(Lcom/example/pelt/pelt/StackCounts;Lcom/example/pelt/pelt/Strand;)V"), (4, u "range"), (0, u "(II)J"), (1, u "blocks")] 9

def k6c0 : Code := { maxStack := 2, maxLocals := 3, code := prog_80_method_1_code, exceptionTable := #[], attributes := #[] }
def k6m0 : Method := { name := "<init>", desc := "(Lcom/example/pelt/pelt/StackCounts;Lcom/example/pelt/pelt/Strand;)V", sig := { parameters := [(.object "com/example/pelt/pelt/StackCounts"), (.object "com/example/pelt/pelt/Strand")], returnType := none }, accessFlags := 0, code := some k6c0 }
def k6c1 : Code := { maxStack := 4, maxLocals := 3, code := prog_80_method_2_code, exceptionTable := #[], attributes := #[] }
def k6m1 : Method := { name := "range", desc := "(II)J", sig := { parameters := [.int, .int], returnType := some .long }, accessFlags := 1, code := some k6c1 }
def k6c2 : Code := { maxStack := 4, maxLocals := 4, code := prog_80_method_3_code, exceptionTable := #[], attributes := #[] }
def k6m2 : Method := { name := "blocks", desc := "(II)J", sig := { parameters := [.int, .int], returnType := some .long }, accessFlags := 1, code := some k6c2 }
/-- com/example/pelt/pelt/StackCounts$2 -/
def k6 : Class := { plain "com/example/pelt/pelt/StackCounts$2" (some 0) with
  accessFlags := 32
  interfaces := #[5]
  cf := some (fileOf pool6 2 #[.nestHost 18] #[{ accessFlags := 0, nameIndex := 15, descriptorIndex := 39, attributes := #[] }, { accessFlags := 1, nameIndex := 44, descriptorIndex := 45, attributes := #[] }, { accessFlags := 1, nameIndex := 47, descriptorIndex := 45, attributes := #[] }] 32 12 #[37] #[{ accessFlags := 4112, nameIndex := 9, descriptorIndex := 10, attributes := #[] }, { accessFlags := 4112, nameIndex := 5, descriptorIndex := 6, attributes := #[] }])
  fields := #[{ name := "val$positions", type := (.object "com/example/pelt/pelt/Strand"), accessFlags := 4112, slot := 0, constantValue := 0 }, { name := "this$0", type := (.object "com/example/pelt/pelt/StackCounts"), accessFlags := 4112, slot := 1, constantValue := 0 }]
  methods := #[k6m0, k6m1, k6m2]
  instanceTypes := #[(.object "com/example/pelt/pelt/Strand"), (.object "com/example/pelt/pelt/StackCounts")]
  staticTypes := #[]
  resolved := Array.replicate 57 none
  statics := none }

def pool7 : Array CpInfo := pool [(1, .class_ 2), (0, u "java/lang/Math"), (1, .class_ 6), (1, u "java/lang/Object"), (0, u "<init>"), (0, u "()V"), (89, .class_ 100), (1, u "java/lang/Math$RandomNumberGeneratorHolder"), (20, u "(JJ)J"), (26, u "floorMod"), (23, u "negativeZeroFloatBits"), (0, u "J"), (2, u "negativeZeroDoubleBits"), (24, u "min"), (43, u "$assertionsDisabled"), (0, u "Z"), (88, u "(II)I"), (2, u "twoToTheDoubleScaleDown"), (0, u "D"), (4, u "twoToTheDoubleScaleUp"), (9, u "E"), (3, u "PI"), (2, u "TAU"), (2, u "DEGREES_TO_RADIANS"), (0, u "RADIANS_TO_DEGREES")] 94

def k7m0 : Method := { name := "<init>", desc := "()V", sig := { parameters := [], returnType := none }, accessFlags := 2, code := none }
def k7c1 : Code := { maxStack := 2, maxLocals := 3, code := jdk_29_method_50_code, exceptionTable := #[], attributes := #[] }
def k7m1 : Method := { name := "floorMod", desc := "(II)I", sig := { parameters := [.int, .int], returnType := some .int }, accessFlags := 9, code := some k7c1 }
def k7c2 : Code := { maxStack := 4, maxLocals := 4, code := jdk_29_method_70_code, exceptionTable := #[], attributes := #[] }
def k7m2 : Method := { name := "min", desc := "(JJ)J", sig := { parameters := [.long, .long], returnType := some .long }, accessFlags := 9, code := some k7c2 }
/-- java/lang/Math -/
def k7 : Class := { plain "java/lang/Math" (some 0) with
  accessFlags := 49
  interfaces := #[]
  cf := some (fileOf pool7 1 #[.nestMembers #[98]] #[{ accessFlags := 2, nameIndex := 7, descriptorIndex := 8, attributes := #[] }, { accessFlags := 9, nameIndex := 148, descriptorIndex := 335, attributes := #[] }, { accessFlags := 9, nameIndex := 201, descriptorIndex := 121, attributes := #[] }] 49 4 #[] #[{ accessFlags := 25, nameIndex := 354, descriptorIndex := 339, attributes := #[] }, { accessFlags := 25, nameIndex := 358, descriptorIndex := 339, attributes := #[] }, { accessFlags := 25, nameIndex := 361, descriptorIndex := 339, attributes := #[] }, { accessFlags := 26, nameIndex := 364, descriptorIndex := 339, attributes := #[] }, { accessFlags := 26, nameIndex := 365, descriptorIndex := 339, attributes := #[] }, { accessFlags := 26, nameIndex := 172, descriptorIndex := 173, attributes := #[] }, { accessFlags := 26, nameIndex := 176, descriptorIndex := 173, attributes := #[] }, { accessFlags := 8, nameIndex := 344, descriptorIndex := 339, attributes := #[] }, { accessFlags := 8, nameIndex := 338, descriptorIndex := 339, attributes := #[] }, { accessFlags := 4120, nameIndex := 245, descriptorIndex := 246, attributes := #[] }])
  fields := #[{ name := "E", type := .double, accessFlags := 25, slot := 0, constantValue := 0 }, { name := "PI", type := .double, accessFlags := 25, slot := 1, constantValue := 0 }, { name := "TAU", type := .double, accessFlags := 25, slot := 2, constantValue := 0 }, { name := "DEGREES_TO_RADIANS", type := .double, accessFlags := 26, slot := 3, constantValue := 0 }, { name := "RADIANS_TO_DEGREES", type := .double, accessFlags := 26, slot := 4, constantValue := 0 }, { name := "negativeZeroFloatBits", type := .long, accessFlags := 26, slot := 5, constantValue := 0 }, { name := "negativeZeroDoubleBits", type := .long, accessFlags := 26, slot := 6, constantValue := 0 }, { name := "twoToTheDoubleScaleUp", type := .double, accessFlags := 8, slot := 7, constantValue := 0 }, { name := "twoToTheDoubleScaleDown", type := .double, accessFlags := 8, slot := 8, constantValue := 0 }, { name := "$assertionsDisabled", type := .boolean, accessFlags := 4120, slot := 9, constantValue := 0 }]
  methods := #[k7m0, k7m1, k7m2]
  instanceTypes := #[]
  staticTypes := #[.double, .double, .double, .double, .double, .long, .long, .double, .double, .boolean]
  resolved := Array.replicate 460 none
  statics := none }

def pool8 : Array CpInfo := pool [(1, u "java/lang/Cloneable"), (0, .class_ 1), (0, u "java/lang/Object"), (0, .class_ 3)] 3

/-- java/lang/Cloneable -/
def k8 : Class := { plain "java/lang/Cloneable" (some 0) with
  accessFlags := 1537
  interfaces := #[]
  cf := some (fileOf pool8 2 #[] #[] 1537 4 #[] #[])
  fields := #[]
  methods := #[]
  instanceTypes := #[]
  staticTypes := #[]
  resolved := Array.replicate 8 none
  statics := none }

def pool9 : Array CpInfo := pool [(1, u "java/io/Serializable"), (0, .class_ 1), (0, u "java/lang/Object"), (0, .class_ 3)] 3

/-- java/io/Serializable -/
def k9 : Class := { plain "java/io/Serializable" (some 0) with
  accessFlags := 1537
  interfaces := #[]
  cf := some (fileOf pool9 2 #[] #[] 1537 4 #[] #[])
  fields := #[]
  methods := #[]
  instanceTypes := #[]
  staticTypes := #[]
  resolved := Array.replicate 8 none
  statics := none }

/-- the primitive byte -/
def k10 : Class := { plain "byte" none with kind := .primitive 'B', accessFlags := 0x411 }
/-- [B -/
def k11 : Class := { plain "[B" (some 0) with kind := .array 10 .byte, interfaces := #[8, 9], accessFlags := 1041 }

/-- the primitive int -/
def k12 : Class := { plain "int" none with kind := .primitive 'I', accessFlags := 0x411 }
/-- [I -/
def k13 : Class := { plain "[I" (some 0) with kind := .array 12 .int, interfaces := #[8, 9], accessFlags := 1041 }

/-- the primitive long -/
def k14 : Class := { plain "long" none with kind := .primitive 'J', accessFlags := 0x411 }
/-- [J -/
def k15 : Class := { plain "[J" (some 0) with kind := .array 14 .long, interfaces := #[8, 9], accessFlags := 1041 }

def heap : Heap := #[]
def classes : Array Class := #[k0, k1, k2, k3, k4, k5, k6, k7, k8, k9, k10, k11, k12, k13, k14, k15]
def interned : List (Array UInt16 × Addr) := []
def slotsUsed : Nat := 0
def theMethod : MethodId := ⟨1, 3⟩
def args0 : Array Value := #[.int 5, .int 1, .int 1, .int 1, .int 1, .int 9]
def aboutOver (below : List Frame) : State where
  vm := { classes := classes, interned := interned.toArray }
  heap := heap
  slotsUsed := slotsUsed
  threads := #[{ frames := .invoking theMethod args0 :: below }]
def below0 : List Frame := [.native { method := ⟨0, 0⟩, args := #[] }]
def about1 : State := aboutOver below0
def p0 : Program := .bare "" "" ""
def e0 : Env := launch0.env 0 0 0
theorem w_frames : about1.frames = Frame.invoking theMethod args0 :: below0 := rfl
set_option maxRecDepth 65536 in
theorem w_args : argsFit about1.vm theMethod args0 = true := by decide +kernel
set_option maxRecDepth 65536 in
theorem w_heap : heapFits about1 = true := by decide +kernel
set_option maxRecDepth 65536 in
theorem w_runnable : about1.curStatus? = some .runnable := by decide +kernel
set_option maxRecDepth 65536 in
theorem w_alone : about1.alone = true := by decide +kernel
set_option maxRecDepth 65536 in
theorem w_named : about1.methodNamed? x = some theMethod := by decide +kernel
set_option maxRecDepth 65536 in
theorem w_hears : about1.hears theMethod below0 = true := by decide +kernel
set_option maxRecDepth 65536 in
theorem w_ripe : about1.ripe theMethod args0 below0 = true := by decide +kernel
theorem w_running : about1.status = .running := rfl
set_option maxRecDepth 65536 in
theorem w_room : about1.hasRoom e0.platform room_1 = true :=
  launch0.hasRoom_least _ room_1 (by decide +kernel) (by decide +kernel) (by decide +kernel) (by decide +kernel) (by decide +kernel) (by decide +kernel)
theorem allAtoms_all (ts : List Jvm.Cond) (a : Array Jvm.Value) (st : Jvm.State) : (allAtoms ts).before a st = ts.all (fun c => c.before a st) := by
  induction ts with
  | nil => rfl
  | cons c t ih =>
    show (Jvm.Cond.and c (allAtoms t)).before a st = _
    rw [Jvm.Cond.before_and, ih, List.all_cons]
def words1 : List Jvm.Cond := Jvm.Cond.code x code maxLocals ret :: tables_1
/-- a 'code' word, met by the world's own term for the bytes: nothing is compared byte by byte -/
theorem code_word {y : MethodName} {bytes : ByteArray} {mx : Nat} {rt : Option FieldType} {a : Array Value} {s : State} {m : MethodId} {meth : Method} {c : Code} (h1 : s.methodNamed? y = some m) (h2 : s.vm.method? m = some meth) (h3 : meth.code = some c) (h4 : c.code = bytes)
    (h5 : (c.maxLocals == mx && c.exceptionTable.isEmpty && decide (c.maxStack ≤ mostOperands) && decide (meth.sig.returnType = rt) && !meth.locks && decide (parseMethodDescriptor y.desc = some meth.sig)) = true) : (Jvm.Cond.code y bytes mx rt).before a s = true := by
  simp only [Bool.and_eq_true, beq_iff_eq, Bool.not_eq_true', decide_eq_true_eq] at h5
  obtain ⟨⟨⟨⟨⟨g1, g2⟩, g3⟩, g4⟩, g5⟩, g6⟩ := h5
  simp [Cond.before, Cond.holds, Cond.value, h1, h2, h3, h4, g1, g2, g3, g4, g5, g6]
def isCode : Jvm.Cond → Bool
  | .code _ _ _ _ => true
  | _ => false
theorem all_split {L : List Jvm.Cond} {P : Jvm.Cond → Bool} (h1 : L.all (fun c => isCode c || P c) = true) (h2 : ∀ c ∈ L.filter isCode, P c = true) : L.all P = true := by
  refine List.all_eq_true.mpr fun c hc => ?_
  have h := List.all_eq_true.mp h1 c hc
  rcases Bool.eq_false_or_eq_true (isCode c) with hi | hi
  · exact h2 c (List.mem_filter.mpr ⟨hc, hi⟩)
  · simpa [hi] using h
set_option maxRecDepth 65536 in
theorem w_c0 : (Jvm.Cond.code x code maxLocals ret).before args0 about1 = true := code_word (m := ⟨1, 3⟩) (meth := k1m3) (c := k1c3) (by decide +kernel) rfl rfl rfl (by decide +kernel)
set_option maxRecDepth 65536 in
theorem w_c1 : (Jvm.Cond.code ({ cls := "com/example/pelt/pelt/StackCounts", name := "<init>", desc := "(II)V" } : Jvm.MethodName) prog_78_method_1_code (3 : Nat) (Option.none : Option Jvm.ClassFile.FieldType)).before args0 about1 = true := code_word (m := ⟨2, 0⟩) (meth := k2m0) (c := k2c0) (by decide +kernel) rfl rfl rfl (by decide +kernel)
set_option maxRecDepth 65536 in
theorem w_c2 : (Jvm.Cond.code ({ cls := "java/lang/Object", name := "<init>", desc := "()V" } : Jvm.MethodName) object_method_1_code (1 : Nat) (Option.none : Option Jvm.ClassFile.FieldType)).before args0 about1 = true := code_word (m := ⟨0, 0⟩) (meth := k0m0) (c := k0c0) (by decide +kernel) rfl rfl rfl (by decide +kernel)
set_option maxRecDepth 65536 in
theorem w_c3 : (Jvm.Cond.code ({ cls := "com/example/pelt/pelt/StackCounts", name := "push", desc := "(Z)V" } : Jvm.MethodName) prog_78_method_3_code (2 : Nat) (Option.none : Option Jvm.ClassFile.FieldType)).before args0 about1 = true := code_word (m := ⟨2, 2⟩) (meth := k2m2) (c := k2c2) (by decide +kernel) rfl rfl rfl (by decide +kernel)
set_option maxRecDepth 65536 in
theorem w_c4 : (Jvm.Cond.code ({ cls := "com/example/pelt/pelt/Strand", name := "<init>", desc := "(IIIII)V" } : Jvm.MethodName) prog_84_method_1_code (6 : Nat) (Option.none : Option Jvm.ClassFile.FieldType)).before args0 about1 = true := code_word (m := ⟨4, 0⟩) (meth := k4m0) (c := k4c0) (by decide +kernel) rfl rfl rfl (by decide +kernel)
set_option maxRecDepth 65536 in
theorem w_c5 : (Jvm.Cond.code ({ cls := "java/lang/Record", name := "<init>", desc := "()V" } : Jvm.MethodName) jdk_30_method_1_code (1 : Nat) (Option.none : Option Jvm.ClassFile.FieldType)).before args0 about1 = true := code_word (m := ⟨3, 0⟩) (meth := k3m0) (c := k3c0) (by decide +kernel) rfl rfl rfl (by decide +kernel)
set_option maxRecDepth 65536 in
theorem w_c6 : (Jvm.Cond.code ({ cls := "com/example/pelt/pelt/StackCounts", name := "cover", desc := "(Lcom/example/pelt/pelt/Strand;)V" } : Jvm.MethodName) prog_78_method_6_code (2 : Nat) (Option.none : Option Jvm.ClassFile.FieldType)).before args0 about1 = true := code_word (m := ⟨2, 4⟩) (meth := k2m4) (c := k2c4) (by decide +kernel) rfl rfl rfl (by decide +kernel)
set_option maxRecDepth 65536 in
theorem w_c7 : (Jvm.Cond.code ({ cls := "com/example/pelt/pelt/StackCounts$2", name := "<init>", desc := "(Lcom/example/pelt/pelt/StackCounts;Lcom/example/pelt/pelt/Strand;)V" } : Jvm.MethodName) prog_80_method_1_code (3 : Nat) (Option.none : Option Jvm.ClassFile.FieldType)).before args0 about1 = true := code_word (m := ⟨6, 0⟩) (meth := k6m0) (c := k6c0) (by decide +kernel) rfl rfl rfl (by decide +kernel)
set_option maxRecDepth 65536 in
theorem w_c8 : (Jvm.Cond.code ({ cls := "com/example/pelt/pelt/Strand", name := "split", desc := "(Lcom/example/pelt/pelt/Strand$Parts;)J" } : Jvm.MethodName) prog_84_method_8_code (12 : Nat) (Option.some Jvm.ClassFile.FieldType.long)).before args0 about1 = true := code_word (m := ⟨4, 1⟩) (meth := k4m1) (c := k4c1) (by decide +kernel) rfl rfl rfl (by decide +kernel)
set_option maxRecDepth 65536 in
theorem w_c9 : (Jvm.Cond.code ({ cls := "com/example/pelt/pelt/StackCounts", name := "pop", desc := "()Z" } : Jvm.MethodName) prog_78_method_4_code (2 : Nat) (Option.some Jvm.ClassFile.FieldType.boolean)).before args0 about1 = true := code_word (m := ⟨2, 3⟩) (meth := k2m3) (c := k2c3) (by decide +kernel) rfl rfl rfl (by decide +kernel)
set_option maxRecDepth 65536 in
theorem w_c10 : (Jvm.Cond.code ({ cls := "com/example/pelt/pelt/StackCountsPopPinLaw", name := "held", desc := "(IIIIII)Z" } : Jvm.MethodName) method_3_code (6 : Nat) (Option.some Jvm.ClassFile.FieldType.boolean)).before args0 about1 = true := code_word (m := ⟨1, 2⟩) (meth := k1m2) (c := k1c2) (by decide +kernel) rfl rfl rfl (by decide +kernel)
set_option maxRecDepth 65536 in
theorem w_c11 : (Jvm.Cond.code ({ cls := "com/example/pelt/pelt/StackCounts", name := "height", desc := "()I" } : Jvm.MethodName) prog_78_method_2_code (1 : Nat) (Option.some Jvm.ClassFile.FieldType.int)).before args0 about1 = true := code_word (m := ⟨2, 1⟩) (meth := k2m1) (c := k2c1) (by decide +kernel) rfl rfl rfl (by decide +kernel)
set_option maxRecDepth 65536 in
theorem w_c12 : (Jvm.Cond.code ({ cls := "java/lang/Math", name := "floorMod", desc := "(II)I" } : Jvm.MethodName) jdk_29_method_50_code (3 : Nat) (Option.some Jvm.ClassFile.FieldType.int)).before args0 about1 = true := code_word (m := ⟨7, 1⟩) (meth := k7m1) (c := k7c1) (by decide +kernel) rfl rfl rfl (by decide +kernel)
set_option maxRecDepth 65536 in
theorem w_c13 : (Jvm.Cond.code ({ cls := "com/example/pelt/pelt/StackCounts$2", name := "range", desc := "(II)J" } : Jvm.MethodName) prog_80_method_2_code (3 : Nat) (Option.some Jvm.ClassFile.FieldType.long)).before args0 about1 = true := code_word (m := ⟨6, 1⟩) (meth := k6m1) (c := k6c1) (by decide +kernel) rfl rfl rfl (by decide +kernel)
set_option maxRecDepth 65536 in
theorem w_c14 : (Jvm.Cond.code ({ cls := "com/example/pelt/pelt/StackCountsPopPinLaw", name := "mod", desc := "(II)I" } : Jvm.MethodName) method_2_code (3 : Nat) (Option.some Jvm.ClassFile.FieldType.int)).before args0 about1 = true := code_word (m := ⟨1, 1⟩) (meth := k1m1) (c := k1c1) (by decide +kernel) rfl rfl rfl (by decide +kernel)
set_option maxRecDepth 65536 in
theorem w_c15 : (Jvm.Cond.code ({ cls := "java/lang/Math", name := "min", desc := "(JJ)J" } : Jvm.MethodName) jdk_29_method_70_code (4 : Nat) (Option.some Jvm.ClassFile.FieldType.long)).before args0 about1 = true := code_word (m := ⟨7, 2⟩) (meth := k7m2) (c := k7c2) (by decide +kernel) rfl rfl rfl (by decide +kernel)
set_option maxRecDepth 65536 in
theorem w_c16 : (Jvm.Cond.code ({ cls := "com/example/pelt/pelt/StackCounts$2", name := "blocks", desc := "(II)J" } : Jvm.MethodName) prog_80_method_3_code (4 : Nat) (Option.some Jvm.ClassFile.FieldType.long)).before args0 about1 = true := code_word (m := ⟨6, 2⟩) (meth := k6m2) (c := k6c2) (by decide +kernel) rfl rfl rfl (by decide +kernel)
set_option maxRecDepth 65536 in
theorem w_c17 : (Jvm.Cond.code ({ cls := "com/example/pelt/pelt/Strand", name := "width", desc := "()I" } : Jvm.MethodName) prog_84_method_16_code (1 : Nat) (Option.some Jvm.ClassFile.FieldType.int)).before args0 about1 = true := code_word (m := ⟨4, 2⟩) (meth := k4m2) (c := k4c2) (by decide +kernel) rfl rfl rfl (by decide +kernel)
set_option maxRecDepth 65536 in
theorem w_c18 : (Jvm.Cond.code ({ cls := "com/example/pelt/pelt/StackCounts", name := "mark", desc := "(III)V" } : Jvm.MethodName) prog_78_method_7_code (6 : Nat) (Option.none : Option Jvm.ClassFile.FieldType)).before args0 about1 = true := code_word (m := ⟨2, 5⟩) (meth := k2m5) (c := k2c5) (by decide +kernel) rfl rfl rfl (by decide +kernel)
def codes1 : List Jvm.Cond := [Jvm.Cond.code x code maxLocals ret, Jvm.Cond.code ({ cls := "com/example/pelt/pelt/StackCounts", name := "<init>", desc := "(II)V" } : Jvm.MethodName) prog_78_method_1_code (3 : Nat) (Option.none : Option Jvm.ClassFile.FieldType), Jvm.Cond.code ({ cls := "java/lang/Object", name := "<init>", desc := "()V" } : Jvm.MethodName) object_method_1_code (1 : Nat) (Option.none : Option Jvm.ClassFile.FieldType), Jvm.Cond.code ({ cls := "com/example/pelt/pelt/StackCounts", name := "push", desc := "(Z)V" } : Jvm.MethodName) prog_78_method_3_code (2 : Nat) (Option.none : Option Jvm.ClassFile.FieldType), Jvm.Cond.code ({ cls := "com/example/pelt/pelt/Strand", name := "<init>", desc := "(IIIII)V" } : Jvm.MethodName) prog_84_method_1_code (6 : Nat) (Option.none : Option Jvm.ClassFile.FieldType), Jvm.Cond.code ({ cls := "java/lang/Record", name := "<init>", desc := "()V" } : Jvm.MethodName) jdk_30_method_1_code (1 : Nat) (Option.none : Option Jvm.ClassFile.FieldType), Jvm.Cond.code ({ cls := "com/example/pelt/pelt/StackCounts", name := "cover", desc := "(Lcom/example/pelt/pelt/Strand;)V" } : Jvm.MethodName) prog_78_method_6_code (2 : Nat) (Option.none : Option Jvm.ClassFile.FieldType), Jvm.Cond.code ({ cls := "com/example/pelt/pelt/StackCounts$2", name := "<init>", desc := "(Lcom/example/pelt/pelt/StackCounts;Lcom/example/pelt/pelt/Strand;)V" } : Jvm.MethodName) prog_80_method_1_code (3 : Nat) (Option.none : Option Jvm.ClassFile.FieldType), Jvm.Cond.code ({ cls := "com/example/pelt/pelt/Strand", name := "split", desc := "(Lcom/example/pelt/pelt/Strand$Parts;)J" } : Jvm.MethodName) prog_84_method_8_code (12 : Nat) (Option.some Jvm.ClassFile.FieldType.long), Jvm.Cond.code ({ cls := "com/example/pelt/pelt/StackCounts", name := "pop", desc := "()Z" } : Jvm.MethodName) prog_78_method_4_code (2 : Nat) (Option.some Jvm.ClassFile.FieldType.boolean), Jvm.Cond.code ({ cls := "com/example/pelt/pelt/StackCountsPopPinLaw", name := "held", desc := "(IIIIII)Z" } : Jvm.MethodName) method_3_code (6 : Nat) (Option.some Jvm.ClassFile.FieldType.boolean), Jvm.Cond.code ({ cls := "com/example/pelt/pelt/StackCounts", name := "height", desc := "()I" } : Jvm.MethodName) prog_78_method_2_code (1 : Nat) (Option.some Jvm.ClassFile.FieldType.int), Jvm.Cond.code ({ cls := "java/lang/Math", name := "floorMod", desc := "(II)I" } : Jvm.MethodName) jdk_29_method_50_code (3 : Nat) (Option.some Jvm.ClassFile.FieldType.int), Jvm.Cond.code ({ cls := "com/example/pelt/pelt/StackCounts$2", name := "range", desc := "(II)J" } : Jvm.MethodName) prog_80_method_2_code (3 : Nat) (Option.some Jvm.ClassFile.FieldType.long), Jvm.Cond.code ({ cls := "com/example/pelt/pelt/StackCountsPopPinLaw", name := "mod", desc := "(II)I" } : Jvm.MethodName) method_2_code (3 : Nat) (Option.some Jvm.ClassFile.FieldType.int), Jvm.Cond.code ({ cls := "java/lang/Math", name := "min", desc := "(JJ)J" } : Jvm.MethodName) jdk_29_method_70_code (4 : Nat) (Option.some Jvm.ClassFile.FieldType.long), Jvm.Cond.code ({ cls := "com/example/pelt/pelt/StackCounts$2", name := "blocks", desc := "(II)J" } : Jvm.MethodName) prog_80_method_3_code (4 : Nat) (Option.some Jvm.ClassFile.FieldType.long), Jvm.Cond.code ({ cls := "com/example/pelt/pelt/Strand", name := "width", desc := "()I" } : Jvm.MethodName) prog_84_method_16_code (1 : Nat) (Option.some Jvm.ClassFile.FieldType.int), Jvm.Cond.code ({ cls := "com/example/pelt/pelt/StackCounts", name := "mark", desc := "(III)V" } : Jvm.MethodName) prog_78_method_7_code (6 : Nat) (Option.none : Option Jvm.ClassFile.FieldType)]
set_option maxRecDepth 65536 in
theorem codes_eq : words1.filter isCode = codes1 := rfl
theorem w_codes : ∀ c ∈ words1.filter isCode, c.before args0 about1 = true := by
  rw [codes_eq]
  intro c hc
  simp only [codes1, List.mem_cons, List.not_mem_nil, or_false] at hc
  rcases hc with rfl | rfl | rfl | rfl | rfl | rfl | rfl | rfl | rfl | rfl | rfl | rfl | rfl | rfl | rfl | rfl | rfl | rfl | rfl
  · exact w_c0
  · exact w_c1
  · exact w_c2
  · exact w_c3
  · exact w_c4
  · exact w_c5
  · exact w_c6
  · exact w_c7
  · exact w_c8
  · exact w_c9
  · exact w_c10
  · exact w_c11
  · exact w_c12
  · exact w_c13
  · exact w_c14
  · exact w_c15
  · exact w_c16
  · exact w_c17
  · exact w_c18
set_option maxRecDepth 65536 in
theorem w_t1 : (words1.take 24).all (fun c => isCode c || c.before args0 about1) = true := by decide +kernel
set_option maxRecDepth 65536 in
theorem w_t2 : ((words1.drop 24).take 24).all (fun c => isCode c || c.before args0 about1) = true := by decide +kernel
set_option maxRecDepth 65536 in
theorem w_t3 : (((words1.drop 24).drop 24).take 24).all (fun c => isCode c || c.before args0 about1) = true := by decide +kernel
set_option maxRecDepth 65536 in
theorem w_t4 : ((((words1.drop 24).drop 24).drop 24).take 24).all (fun c => isCode c || c.before args0 about1) = true := by decide +kernel
set_option maxRecDepth 65536 in
theorem w_t5 : (((((words1.drop 24).drop 24).drop 24).drop 24).take 24).all (fun c => isCode c || c.before args0 about1) = true := by decide +kernel
set_option maxRecDepth 65536 in
theorem w_t6 : (((((words1.drop 24).drop 24).drop 24).drop 24).drop 24).all (fun c => isCode c || c.before args0 about1) = true := by decide +kernel
theorem w_tables : (allAtoms (Jvm.Cond.code x code maxLocals ret :: tables_1)).before args0 about1 = true := by
  rw [allAtoms_all]
  show words1.all (fun c => c.before args0 about1) = true
  refine all_split ?_ w_codes
  rw [← List.take_append_drop 24 words1, List.all_append, w_t1, ← List.take_append_drop 24 (words1.drop 24), List.all_append, w_t2, ← List.take_append_drop 24 ((words1.drop 24).drop 24), List.all_append, w_t3, ← List.take_append_drop 24 (((words1.drop 24).drop 24).drop 24), List.all_append, w_t4, ← List.take_append_drop 24 ((((words1.drop 24).drop 24).drop 24).drop 24), List.all_append, w_t5, w_t6]
  rfl
set_option maxRecDepth 65536 in
theorem w_case : (Jvm.Cond.and given_1 narrow_1).before args0 about1 = true := by decide +kernel
theorem w_applies : (headSpec (Jvm.Cond.code x code maxLocals ret :: tables_1) room_1).applies x e0.platform about1 = true :=
  (Spec.applies_iff w_frames).mpr ⟨w_running, w_runnable, w_alone, w_named, w_hears, w_ripe, w_room, w_tables⟩
theorem atStart : AtStart classFile x code maxLocals ret World_1 tables_1 room_1 Calls_1 rest_1 Pre_1 launch0 p0 e0 about1 theMethod args0 below0 :=
  ⟨lists_1, trivial, launch0.admits_env _ _ _, launch0.least_env, fairChoices_fair.cas, fairChoices_fair.clock, w_frames, w_args, w_heap, w_applies, trivial, trivial, w_case⟩
end start1
theorem witness_1 : WitnessClaimed_1 := ⟨start1.p0, start1.e0, start1.about1, start1.theMethod, start1.args0, start1.below0, start1.atStart⟩
end Jvm.Pilot.@@N@@
