import JvmDerived
import JvmDerived.Pilot.@@N@@Statement
import JvmDerived.Pilot.@@N@@Code
set_option linter.unusedVariables false
set_option linter.unusedSimpArgs false
namespace Jvm.Pilot.@@N@@
open Jvm Jvm.ClassFile Sem Op Lib Jvm.Free Jvm.Stand Jvm.LawKit Jvm.RoadKit Bundle Jvm.Pilot.@@N@@.Jvm.D
/-! OWN KIT: a walk as a goal that goes forward (OGets), and a list of the fresh objects with what they hold (OView) -/
section OwnKit
variable {p : Program} {l : Launch} {e : Env} {R : Room} {s : State} {m : MethodId} {args : Array Value} {below : List Frame} {meth : Method} {c : Code} {T : State} {locs : List Loc} {cells slots : Nat} {Z : State} {a0 : Array Value} {h h' : Heap} {n0 : Nat}
/-- from U the run comes to an end that P allows -/
def OGets (p : Program) (e : Env) (below : List Frame) (P : State → Outcome → Prop) (U : State) : Prop := ∃ s₂ o, Steps p.tables e below U s₂ ∧ s₂.status = .running ∧ Ended s₂ below o ∧ P s₂ o
def OLeaves (s : State) (Q : Option Value → Heap → List Loc → Prop) (k n : Nat) (t : State) (o : Outcome) : Prop := ∃ v L, o = .returned v ∧ Q v t.heap L ∧ FrameEnd s o t L k n
theorem OGets.step {P : State → Outcome → Prop} {U U' : State} (k : ∀ t, Steps p.tables e below U' t → Steps p.tables e below U t) (g : OGets p e below P U') : OGets p e below P U := by
  obtain ⟨t, o, h1, h2⟩ := g
  exact ⟨t, o, k t h1, h2⟩
theorem OGets.after {P : State → Outcome → Prop} {U U' : State} (k : Steps p.tables e below U U') (g : OGets p e below P U') : OGets p e below P U := by
  obtain ⟨t, o, h1, h2⟩ := g
  exact ⟨t, o, k.trans h1, h2⟩
theorem OGets.enter {P : State → Outcome → Prop} {g g' : JFrame} (q : g = g') (k : OGets p e below P (T.setTop g')) : OGets p e below P (T.setTop g) := q ▸ k
theorem OGets.cut {P : State → Outcome → Prop} {U U' : State} (k : OGets p e below P U') (f : OGets p e below P U' → OGets p e below P U) : OGets p e below P U := f k
theorem OGets.retN (X : Stand p l e R s m args below meth c T locs cells slots) (hx : p.tables.exec = Jvm.exec) (hk : meth.locks = false) {t : FieldType} (hret : meth.sig.returnType = some t) (ht : t = .boolean ∨ t = .byte ∨ t = .char ∨ t = .short) {pc : Nat} {Ls : Array Slot} {z : Int32} {rest : List Value}
    (hd : decode c.code pc = .ok (.ireturn, 1)) {Q : Option Value → Heap → List Loc → Prop} {k n : Nat} (hc : cells ≤ k) (hs : slots ≤ n) (hQ : Q (some (.int (nar t z))) T.heap locs) : OGets p e below (OLeaves s Q k n) (T.setTop (mkF m pc Ls (.int z :: rest))) := by
  obtain ⟨fs, hr, hrun, hended, hW, hsame⟩ := X.leave (v := some (.int (nar t z))) (fun h => by rw [hret] at h; cases h) hk
  exact ⟨_, _, Jvm.RoadKit.retN X hx hret ht hd hr, hrun, hended, _, _, rfl, hQ, ⟨_, rfl⟩, hW, hsame.mono hc hs⟩
theorem OGets.retI (X : Stand p l e R s m args below meth c T locs cells slots) (hx : p.tables.exec = Jvm.exec) (hk : meth.locks = false) (hret : meth.sig.returnType = some .int) {pc : Nat} {Ls : Array Slot} {z : Int32} {rest : List Value}
    (hd : decode c.code pc = .ok (.ireturn, 1)) {Q : Option Value → Heap → List Loc → Prop} {k n : Nat} (hc : cells ≤ k) (hs : slots ≤ n) (hQ : Q (some (.int z)) T.heap locs) : OGets p e below (OLeaves s Q k n) (T.setTop (mkF m pc Ls (.int z :: rest))) := by
  obtain ⟨fs, hr, hrun, hended, hW, hsame⟩ := X.leave (v := some (.int z)) (fun h => by rw [hret] at h; cases h) hk
  exact ⟨_, _, Jvm.RoadKit.retOut X hx hret rfl (Or.inl ⟨rfl, Or.inl rfl, _, rfl⟩) hd hr, hrun, hended, _, _, rfl, hQ, ⟨_, rfl⟩, hW, hsame.mono hc hs⟩
theorem OGets.retJ (X : Stand p l e R s m args below meth c T locs cells slots) (hx : p.tables.exec = Jvm.exec) (hk : meth.locks = false) (hret : meth.sig.returnType = some .long) {pc : Nat} {Ls : Array Slot} {z : Int64} {rest : List Value}
    (hd : decode c.code pc = .ok (.lreturn, 1)) {Q : Option Value → Heap → List Loc → Prop} {k n : Nat} (hc : cells ≤ k) (hs : slots ≤ n) (hQ : Q (some (.long z)) T.heap locs) : OGets p e below (OLeaves s Q k n) (T.setTop (mkF m pc Ls (.long z :: rest))) := by
  obtain ⟨fs, hr, hrun, hended, hW, hsame⟩ := X.leave (v := some (.long z)) (fun h => by rw [hret] at h; cases h) hk
  exact ⟨_, _, Jvm.RoadKit.retOut X hx hret rfl (Or.inr (Or.inl ⟨rfl, rfl, _, rfl⟩)) hd hr, hrun, hended, _, _, rfl, hQ, ⟨_, rfl⟩, hW, hsame.mono hc hs⟩
theorem OGets.retA (X : Stand p l e R s m args below meth c T locs cells slots) (hx : p.tables.exec = Jvm.exec) (hk : meth.locks = false) {t : FieldType} (hret : meth.sig.returnType = some t) (ht : t.isReference = true) {pc : Nat} {Ls : Array Slot} {w : Value} {rest : List Value} (hw : w.isRef = true) (hn : narrow t w = w)
    (hd : decode c.code pc = .ok (.areturn, 1)) {Q : Option Value → Heap → List Loc → Prop} {k n : Nat} (hc : cells ≤ k) (hs : slots ≤ n) (hQ : Q (some w) T.heap locs) : OGets p e below (OLeaves s Q k n) (T.setTop (mkF m pc Ls (w :: rest))) := by
  obtain ⟨fs, hr, hrun, hended, hW, hsame⟩ := X.leave (v := some w) (fun h => by rw [hret] at h; cases h) hk
  exact ⟨_, _, Jvm.RoadKit.retOut X hx hret hn (Or.inr (Or.inr (Or.inr (Or.inr ⟨rfl, ht, hw⟩)))) hd hr, hrun, hended, _, _, rfl, hQ, ⟨_, rfl⟩, hW, hsame.mono hc hs⟩
theorem OGets.retV (X : Stand p l e R s m args below meth c T locs cells slots) (hx : p.tables.exec = Jvm.exec) (hk : meth.locks = false) (hret : meth.sig.returnType = none) {pc : Nat} {Ls : Array Slot}
    (hd : decode c.code pc = .ok (.return_, 1)) {Q : Option Value → Heap → List Loc → Prop} {k n : Nat} (hc : cells ≤ k) (hs : slots ≤ n) (hQ : Q none T.heap locs) : OGets p e below (OLeaves s Q k n) (T.setTop (mkF m pc Ls [])) := by
  obtain ⟨fs, hr, hrun, hended, hW, hsame⟩ := X.leave (v := none) (fun _ => rfl) hk
  exact ⟨_, _, X.returnOut hx hret hd hr, hrun, hended, _, _, rfl, hQ, ⟨_, rfl⟩, hW, hsame.mono hc hs⟩
/-- an object (class, fields, their values) or an array (what it is of, its components) -/
abbrev OObj : Type := Sum (String × List (String × String × String) × List Value) (FieldType × List Value)
def OHold (Z : State) (h : Heap) (a : Addr) (o : OObj) : Prop :=
  (∀ q, o = Sum.inl q → Exa Z h a q.1 ∧ q.2.1.Pairwise (fun x y => Jvm.RoadKit.slotOf Z x.1 x.2.1 x.2.2 ≠ Jvm.RoadKit.slotOf Z y.1 y.2.1 y.2.2) ∧ ∀ (j : Nat) (k : String × String × String) (v : Value), q.2.1[j]? = some k → q.2.2[j]? = some v → Fld Z h a k.1 k.2.1 k.2.2 v) ∧
  (∀ q, o = Sum.inr q → ∃ cl : Cell, Arr Z h a cl q.1 ∧ cl.slots.toList = q.2)
variable {a b : Addr} {o : OObj} {sl : Nat} {v : Value} {os : List (Addr × OObj)} {C : String} {ns : List (String × String × String)} {vs : List Value} {ty : FieldType}
theorem OHold.other (W : Wr h h' a sl v) (hne : b ≠ a) (H : OHold Z h b o) : OHold Z h' b o := by
  refine ⟨fun q hq => ?_, fun q hq => ?_⟩
  · obtain ⟨h1, h2, h3⟩ := H.1 q hq
    exact ⟨h1.wr W, h2, fun j k w e1 e2 => (h3 j k w e1 e2).other W (Or.inl hne)⟩
  · obtain ⟨cl, h1, h2⟩ := H.2 q hq
    exact ⟨cl, h1.other W hne, h2⟩
theorem OHold.ext (E : Ext h h') (H : OHold Z h b o) : OHold Z h' b o := by
  refine ⟨fun q hq => ?_, fun q hq => ?_⟩
  · obtain ⟨h1, h2, h3⟩ := H.1 q hq
    exact ⟨h1.ext E, h2, fun j k w e1 e2 => (h3 j k w e1 e2).ext E⟩
  · obtain ⟨cl, h1, h2⟩ := H.2 q hq
    exact ⟨cl, h1.ext E, h2⟩
theorem OHold.obj (h1 : Exa Z h a C) (h2 : ns.Pairwise (fun x y => Jvm.RoadKit.slotOf Z x.1 x.2.1 x.2.2 ≠ Jvm.RoadKit.slotOf Z y.1 y.2.1 y.2.2)) (h3 : ∀ (j : Nat) (k : String × String × String) (v : Value), ns[j]? = some k → vs[j]? = some v → Fld Z h a k.1 k.2.1 k.2.2 v) : OHold Z h a (Sum.inl (C, ns, vs)) :=
  ⟨fun q hq => (by cases hq; exact ⟨h1, h2, h3⟩), fun q hq => (by cases hq)⟩
theorem OHold.arr {cl : Cell} (h1 : Arr Z h a cl ty) (h2 : cl.slots.toList = vs) : OHold Z h a (Sum.inr (ty, vs)) :=
  ⟨fun q hq => (by cases hq), fun q hq => (by cases hq; exact ⟨cl, h1, h2⟩)⟩
theorem OHold.putF (H : OHold Z h a (Sum.inl (C, ns, vs))) {j : Nat} {k : String × String × String} (hj : ns[j]? = some k) (W : Wr h h' a (Jvm.RoadKit.slotOf Z k.1 k.2.1 k.2.2) v) : OHold Z h' a (Sum.inl (C, ns, vs.set j v)) := by
  obtain ⟨h1, h2, h3⟩ := H.1 _ rfl
  refine OHold.obj (h1.wr W) h2 fun i k' w e1 e2 => ?_
  by_cases q : j = i
  · subst q
    rw [hj] at e1; cases e1
    rw [List.getElem?_set] at e2
    split at e2
    · split at e2
      · rename_i hlt
        cases e2
        exact (h3 j k _ hj (List.getElem?_eq_getElem hlt)).same W
      · cases e2
    · exact absurd rfl ‹_›
  · rw [List.getElem?_set_ne q] at e2
    refine (h3 i k' w e1 e2).other W (Or.inr ?_)
    obtain ⟨hi, e1⟩ := List.getElem?_eq_some_iff.mp e1
    obtain ⟨hj', hj⟩ := List.getElem?_eq_some_iff.mp hj
    have P := List.pairwise_iff_getElem.mp h2
    subst e1 hj
    rcases Nat.lt_or_gt_of_ne q with q | q
    · exact (P j i hj' hi q).symm
    · exact P i j hi hj' q
theorem OHold.putA (H : OHold Z h a (Sum.inr (ty, vs))) {j : Nat} (W : Wr h h' a j v) : OHold Z h' a (Sum.inr (ty, vs.set j v)) := by
  obtain ⟨cl, h1, h2⟩ := H.2 _ rfl
  exact OHold.arr (h1.same W) (by show (cl.slots.setIfInBounds j v).toList = vs.set j v; rw [Array.toList_setIfInBounds]; exact congrArg (fun z => z.set j v) h2)
/-- the objects made since the law began, as a list: no two at one place, none old, each as said -/
def OView (Z : State) (n0 : Nat) (h : Heap) (os : List (Addr × OObj)) : Prop := (os.map (·.1)).Nodup ∧ ∀ q ∈ os, n0 ≤ q.1 ∧ q.1 < h.size ∧ OHold Z h q.1 q.2
theorem OView.nil (Z : State) (n0 : Nat) (h : Heap) : OView Z n0 h [] := ⟨List.nodup_nil, fun q hq => by cases hq⟩
theorem OView.perm {os' : List (Addr × OObj)} (V : OView Z n0 h os) (P : os.Perm os') : OView Z n0 h os' := ⟨(P.map _).nodup_iff.mp V.1, fun q hq => V.2 q (P.mem_iff.mpr hq)⟩
theorem own_bring {α : Type} : ∀ (os : List α) (i : Nat) (q : α), os[i]? = some q → os.Perm (q :: os.eraseIdx i)
  | [], i, q, hq => by cases hq
  | x :: t, 0, q, hq => by cases hq; exact List.Perm.refl _
  | x :: t, i + 1, q, hq => (List.Perm.cons x (own_bring t i q hq)).trans (List.Perm.swap q x _)
theorem own_set {α : Type} : ∀ (os : List α) (i : Nat) (q r : α), os[i]? = some q → (r :: os.eraseIdx i).Perm (os.set i r)
  | [], i, q, r, hq => by cases hq
  | x :: t, 0, q, r, hq => List.Perm.refl _
  | x :: t, i + 1, q, r, hq => (List.Perm.swap x r _).trans (List.Perm.cons x (own_set t i q r hq))
theorem OView.bring (V : OView Z n0 h os) (i : Nat) {q : Addr × OObj} (hq : os[i]? = some q) : OView Z n0 h (q :: os.eraseIdx i) := V.perm (own_bring os i q hq)
theorem OView.at (V : OView Z n0 h os) (i : Nat) {q : Addr × OObj} (hq : os[i]? = some q) : n0 ≤ q.1 ∧ q.1 < h.size ∧ OHold Z h q.1 q.2 := V.2 q (List.mem_of_getElem? hq)
theorem OView.old (V : OView Z n0 h os) (i : Nat) {a : Addr} {o : OObj} (hq : os[i]? = some (a, o)) : n0 ≤ a := (V.at i hq).1
theorem OView.big (V : OView Z n0 h os) (i : Nat) {q : Addr × OObj} (hq : os[i]? = some q) : n0 ≤ h.size := Nat.le_trans (V.at i hq).1 (Nat.le_of_lt (V.at i hq).2.1)
theorem OView.exa (V : OView Z n0 h os) (i : Nat) {a : Addr} (hq : os[i]? = some (a, Sum.inl (C, ns, vs))) : Exa Z h a C := ((V.at i hq).2.2.1 _ rfl).1
theorem OView.fld (V : OView Z n0 h os) (i : Nat) {a : Addr} (hq : os[i]? = some (a, Sum.inl (C, ns, vs))) (j : Nat) {O n d : String} (hj : ns[j]? = some (O, n, d)) (hv : vs[j]? = some v) : Fld Z h a O n d v := ((V.at i hq).2.2.1 _ rfl).2.2 j _ v hj hv
theorem OView.arr (V : OView Z n0 h os) (i : Nat) {a : Addr} (hq : os[i]? = some (a, Sum.inr (ty, vs))) : ∃ cl : Cell, Arr Z h a cl ty ∧ cl.slots.toList = vs := (V.at i hq).2.2.2 _ rfl
theorem OView.up (V : OView Z n0 h os) (W : Wr h h' a sl v) (i : Nat) {o o' : OObj} (hq : os[i]? = some (a, o)) (H : OHold Z h' a o') : OView Z n0 h' (os.set i (a, o')) := by
  have V1 := V.bring i hq
  have V2 : OView Z n0 h' ((a, o') :: os.eraseIdx i) := by
    refine ⟨V1.1, fun q hq' => ?_⟩
    rcases List.mem_cons.mp hq' with rfl | hq'
    · exact ⟨(V.at i hq).1, by rw [W.size]; exact (V.at i hq).2.1, H⟩
    · obtain ⟨h1, h2, h3⟩ := V1.2 q (List.mem_cons_of_mem _ hq')
      refine ⟨h1, by rw [W.size]; exact h2, h3.other W fun e => ?_⟩
      have := (List.nodup_cons.mp V1.1).1
      exact this (List.mem_map.mpr ⟨q, hq', e⟩)
  exact V2.perm (own_set os i _ _ hq)
theorem OView.putF (V : OView Z n0 h os) (i : Nat) (hq : os[i]? = some (a, Sum.inl (C, ns, vs))) (j : Nat) {O n d : String} (hj : ns[j]? = some (O, n, d)) (W : Wr h h' a (Jvm.RoadKit.slotOf Z O n d) v) : OView Z n0 h' (os.set i (a, Sum.inl (C, ns, vs.set j v))) := V.up W i hq ((V.at i hq).2.2.putF hj W)
theorem OView.putA (V : OView Z n0 h os) (i : Nat) (hq : os[i]? = some (a, Sum.inr (ty, vs))) {j : Nat} (W : Wr h h' a j v) : OView Z n0 h' (os.set i (a, Sum.inr (ty, vs.set j v))) := V.up W i hq ((V.at i hq).2.2.putA W)
theorem OView.ext (V : OView Z n0 h os) (E : Ext h h') : OView Z n0 h' os := ⟨V.1, fun q hq => ⟨(V.2 q hq).1, Nat.lt_of_lt_of_le (V.2 q hq).2.1 E.1, (V.2 q hq).2.2.ext E⟩⟩
theorem OView.cons (V : OView Z n0 h os) (hn : n0 ≤ h.size) (E : Ext h h') (hlt : h.size < h'.size) (H : OHold Z h' h.size o) : OView Z n0 h' ((h.size, o) :: os) := by
  refine ⟨List.nodup_cons.mpr ⟨fun hm => ?_, V.1⟩, fun q hq => ?_⟩
  · obtain ⟨q, h1, h2⟩ := List.mem_map.mp hm
    exact Nat.lt_irrefl _ (h2 ▸ (V.2 q h1).2.1)
  · rcases List.mem_cons.mp hq with rfl | hq
    · exact ⟨hn, hlt, H⟩
    · exact (V.ext E).2 q hq
theorem own_pair (hL : ∀ x ∈ ns, Laid Z a0 C x.1 x.2.1 x.2.2) (hd : ∀ x ∈ ns, (parseFieldDescriptor x.2.2).isSome = true) (hn : ns.Pairwise (fun x y => x.2.1 ≠ y.2.1)) : ns.Pairwise (fun x y => Jvm.RoadKit.slotOf Z x.1 x.2.1 x.2.2 ≠ Jvm.RoadKit.slotOf Z y.1 y.2.1 y.2.2) :=
  hn.imp_of_mem fun {x y} hx hy hne => by
    obtain ⟨t, ht⟩ := Option.isSome_iff_exists.mp (hd x hx)
    obtain ⟨t', ht'⟩ := Option.isSome_iff_exists.mp (hd y hy)
    exact slot_ne (hL x hx) (hL y hy) hne ht ht'
/-- a fresh object, as 'new' leaves it -/
theorem OView.newObj (V : OView Z n0 h os) (hn : n0 ≤ h.size) (E : Ext h h') (A : Exa Z h' h.size C) (D : ∀ {O nm d : String} {ty : FieldType}, Laid Z a0 C O nm d → parseFieldDescriptor d = some ty → Fld Z h' h.size O nm d (defaultValue ty))
    (hL : ∀ x ∈ ns, Laid Z a0 C x.1 x.2.1 x.2.2) (hd : ns.map (fun x => (parseFieldDescriptor x.2.2).map defaultValue) = vs.map some) (hnm : ns.Pairwise (fun x y => x.2.1 ≠ y.2.1)) : OView Z n0 h' ((h.size, Sum.inl (C, ns, vs)) :: os) := by
  have hs : ∀ x ∈ ns, (parseFieldDescriptor x.2.2).isSome = true := fun x hx => by
    have h1 : (parseFieldDescriptor x.2.2).map defaultValue ∈ vs.map some := hd ▸ List.mem_map.mpr ⟨x, hx, rfl⟩
    obtain ⟨w, -, h2⟩ := List.mem_map.mp h1
    cases hp : parseFieldDescriptor x.2.2 with
    | none => rw [hp] at h2; cases h2
    | some t => rfl
  refine V.cons hn E A.lt (OHold.obj A (own_pair hL hs hnm) fun j k w e1 e2 => ?_)
  have h1 : (ns.map (fun x => (parseFieldDescriptor x.2.2).map defaultValue))[j]? = some ((parseFieldDescriptor k.2.2).map defaultValue) := by rw [List.getElem?_map, e1]; rfl
  have h2 : (vs.map some)[j]? = some (some w) := by rw [List.getElem?_map, e2]; rfl
  rw [hd, h2] at h1
  have h3 := Option.some.inj h1
  cases hp : parseFieldDescriptor k.2.2 with
  | none => rw [hp] at h3; cases h3
  | some t =>
    rw [hp] at h3
    cases Option.some.inj h3
    exact D (hL k (List.mem_of_getElem? e1)) hp
/-- a fresh array -/
theorem OView.newArr (V : OView Z n0 h os) (hn : n0 ≤ h.size) (E : Ext h h') {cA : ClassId} {z : Int32} (A : Arr Z h' h.size (newA cA ty z) ty) (k : Nat) (hk : z.toNatClampNeg = k) : OView Z n0 h' ((h.size, Sum.inr (ty, List.replicate k (defaultValue ty))) :: os) := by
  refine V.cons hn E A.lt (OHold.arr A ?_)
  rw [← hk]; simp [newA]
theorem own_inb {cl : Cell} {vs : List Value} (hs : cl.slots.toList = vs) {j : Int32} (k : Nat) (hj : j.toInt = (k : Int)) (hk : k < vs.length) : ¬ (j < 0 ∨ cl.slots.size ≤ j.toNatClampNeg) := by
  have h1 : cl.slots.size = vs.length := by rw [← hs]; simp
  have e0 : (0 : Int32).toInt = 0 := rfl
  rw [h1]
  simp only [Int32.lt_iff_toInt_lt, Int32.toNatClampNeg, hj, e0]
  omega
theorem own_clamp {j : Int32} (k : Nat) (hj : j.toInt = (k : Int)) : j.toNatClampNeg = k := by simp only [Int32.toNatClampNeg, hj]; omega
theorem own_get {cl : Cell} {vs : List Value} (hs : cl.slots.toList = vs) {j : Int32} (k : Nat) (hj : j.toInt = (k : Int)) {v : Value} (hv : vs[k]? = some v) : cl.slots[j.toNatClampNeg]? = some v := by
  rw [own_clamp k hj, ← Array.getElem?_toList, hs]; exact hv
theorem own_wr {vs : List Value} {j : Int32} (k : Nat) (hj : j.toInt = (k : Int)) (W : Wr h h' a j.toNatClampNeg v) : Wr h h' a k v := by rw [own_clamp k hj] at W; exact W
theorem own_len {cl : Cell} {vs : List Value} (hs : cl.slots.toList = vs) : cl.slots.size = vs.length := by rw [← hs]; simp
end OwnKit
def nmOf : Nat → String
  | 0 => "ANCESTOR"
  | 1 => "ANCESTOR_OR_SELF"
  | 2 => "ATTRIBUTE"
  | 3 => "CHILD"
  | 4 => "DESCENDANT"
  | 5 => "DESCENDANT_OR_SELF"
  | 6 => "FOLLOWING"
  | 7 => "FOLLOWING_SIBLING"
  | 8 => "NAMESPACE"
  | 9 => "PARENT"
  | 10 => "PRECEDING"
  | 11 => "PRECEDING_SIBLING"
  | _ => "SELF"
def clOf : Nat → String
  | 0 => "com/example/pelt/pelt/Axis$1"
  | 1 => "com/example/pelt/pelt/Axis$2"
  | 2 => "com/example/pelt/pelt/Axis$3"
  | 3 => "com/example/pelt/pelt/Axis$4"
  | 4 => "com/example/pelt/pelt/Axis$5"
  | 5 => "com/example/pelt/pelt/Axis$6"
  | 6 => "com/example/pelt/pelt/Axis$7"
  | 7 => "com/example/pelt/pelt/Axis$8"
  | 8 => "com/example/pelt/pelt/Axis$9"
  | 9 => "com/example/pelt/pelt/Axis$10"
  | 10 => "com/example/pelt/pelt/Axis$11"
  | 11 => "com/example/pelt/pelt/Axis$12"
  | _ => "com/example/pelt/pelt/Axis$13"
theorem pn_0 : plainName "com/example/pelt/pelt/AxisListsOverlapPinLaw" = true := by first | (simp [plainName, overriddenIn]; done) | decide +kernel
theorem dm2_0 : decode method_2_code 0 = .ok (.iload_n 0, 1) := by decide +kernel
theorem dm2_1 : decode method_2_code 1 = .ok (.ifCond .ne 7, 3) := by decide +kernel
theorem dm2_4 : decode method_2_code 4 = .ok (.getstatic 7, 3) := by decide +kernel
theorem dm2_7 : decode method_2_code 7 = .ok (.areturn, 1) := by decide +kernel
theorem ef_pk0 (m : MethodId) (x0 : Int32) : entryFrame m #[(.int x0)] 1 = mkF m 0 #[.val (.int x0)] [] := by first | (simp [entryFrame, mkF, argsToLocals, Value.category]; done) | rfl
def Q_pk0 (Z : State) (A : Nat → Addr) (h0 : Heap) (n0 : Nat) (v : Option Value) (h : Heap) (L : List Loc) : Prop := v = some (.ref (A 0)) ∧ L = [] ∧ h = h0
set_option maxRecDepth 65536 in
set_option maxHeartbeats 40000000 in
theorem rm_pk0 (l : Launch) (Z : State) (a0 : Array Value) (hw : ∀ d ∈ tables_1, d.before a0 Z = true) (ws : List Jvm.Cond) (A : Nat → Addr) (h0 : Heap) (n0 : Nat) (Z0 : n0 ≤ h0.size) (hS : ∀ i, i < 13 → Sta Z h0 "com/example/pelt/pelt/Axis" (nmOf i) "Lcom/example/pelt/pelt/Axis;" (.ref (A i))) (hI : ∀ i j, i < 13 → j < 13 → A i = A j → i = j) :
    MetFree l (⟨"com/example/pelt/pelt/AxisListsOverlapPinLaw", "pick", "(I)Lcom/example/pelt/pelt/Axis;"⟩ : MethodName) (head1 (Jvm.Cond.code (⟨"com/example/pelt/pelt/AxisListsOverlapPinLaw", "pick", "(I)Lcom/example/pelt/pelt/Axis;"⟩ : MethodName) method_2_code 1 (some (.object "com/example/pelt/pelt/Axis")) :: ws) ({ frames := 0, cells := 0, slots := 0, locals := 0 } : Room)) (fun a_ U => a_ = #[(.int (0 : Int32))] ∧ Z.Warmed39 U.vm ∧ U.heap = h0) (fun _ _ _ _ _ => True) (fun _ U o U' => ∃ v L, o = .returned v ∧ Q_pk0 Z A h0 n0 v U'.heap L ∧ FrameEnd U o U' L ({ frames := 0, cells := 0, slots := 0, locals := 0 } : Room).cells ({ frames := 0, cells := 0, slots := 0, locals := 0 } : Room).slots) := by
  refine MetFree.of_bodySF (plainFor_of_name pn_0) hisR ?_
  intro p e s m args below meth c s₁ Bd hml0 hP hK
  obtain ⟨rfl, hZ, hh⟩ := hP
  have hx := Bd.exec
  have hby := Bd.bytes
  have hlk : meth.locks = false := Bd.notSynchronized
  have hml : c.maxLocals = 1 := hml0
  have hown : s.vm.findClass "com/example/pelt/pelt/AxisListsOverlapPinLaw" = some m.cls := findClass_of_methodNamed Bd.named
  have hnm := (name_of_methodNamed Bd.named Bd.method).1
  have X0 : Stand p l e ({ frames := 0, cells := 0, slots := 0, locals := 0 } : Room) s m #[(.int (0 : Int32))] below meth c s₁ [] 0 0 := Stand.of_body Bd
  have e0 : s₁.heap = h0 := by rw [← hh, Bd.state]; rfl
  have N0 := Fr.nil n0
  show OGets p e below (OLeaves s (Q_pk0 Z A h0 n0 ) ({ frames := 0, cells := 0, slots := 0, locals := 0 } : Room).cells ({ frames := 0, cells := 0, slots := 0, locals := 0 } : Room).slots) _
  refine OGets.enter (ef_pk0 m (0 : Int32)) ?_
  show OGets p e below _ (s₁.setTop (mkF m 0 #[.val (.int (0 : Int32))] []))
  refine OGets.step (fun _ => XS.iloadN X0.here hx rfl (hb hby dm2_0) rfl) ?_
  show OGets p e below _ (s₁.setTop (mkF m 1 #[.val (.int (0 : Int32))] [(.int (0 : Int32))]))
  refine OGets.step (fun _ => XS.ifNo X0.here hx rfl (hb hby dm2_1) rfl ((if0 _ _).trans (teq (by decide : (0 : Int32) = (0 : Int32))).2)) ?_
  show OGets p e below _ (s₁.setTop (mkF m 4 #[.val (.int (0 : Int32))] []))
  obtain ⟨T2, X2, e2, st2⟩ := getS2 X0 hx hZ hown (host := "") (Or.inl (hw _ (List.mem_of_getElem? (i := 5) rfl))) Via.refl e0 (show Sta Z h0 "com/example/pelt/pelt/Axis" "ANCESTOR" "Lcom/example/pelt/pelt/Axis;" (.ref (A 0)) from hS 0 (by decide)) (g := (mkF m 4 #[.val (.int (0 : Int32))] [])) rfl (hb hby dm2_4)
  refine OGets.step st2 ?_
  show OGets p e below _ (T2.setTop (mkF m 7 #[.val (.int (0 : Int32))] [(.ref (A 0))]))
  refine OGets.retA X2 hx hlk (t := (.object "com/example/pelt/pelt/Axis")) Bd.returns rfl rfl rfl (hb hby dm2_7) (Nat.le_of_ble_eq_true rfl) (Nat.le_of_ble_eq_true rfl) ?_
  exact ⟨rfl, rfl, e2⟩
theorem pn_1 : plainName "com/example/pelt/pelt/Axis" = true := by first | (simp [plainName, overriddenIn]; done) | decide +kernel
theorem d3m15_0 : decode prog_3_method_15_code 0 = .ok (.aload_n 0, 1) := by decide +kernel
theorem d3m15_1 : decode prog_3_method_15_code 1 = .ok (.getstatic 13, 3) := by decide +kernel
theorem d3m15_4 : decode prog_3_method_15_code 4 = .ok (.if_acmp .eq 35, 3) := by decide +kernel
theorem d3m15_7 : decode prog_3_method_15_code 7 = .ok (.aload_n 0, 1) := by decide +kernel
theorem d3m15_8 : decode prog_3_method_15_code 8 = .ok (.getstatic 10, 3) := by decide +kernel
theorem d3m15_11 : decode prog_3_method_15_code 11 = .ok (.if_acmp .eq 28, 3) := by decide +kernel
theorem d3m15_14 : decode prog_3_method_15_code 14 = .ok (.aload_n 0, 1) := by decide +kernel
theorem d3m15_15 : decode prog_3_method_15_code 15 = .ok (.getstatic 28, 3) := by decide +kernel
theorem d3m15_18 : decode prog_3_method_15_code 18 = .ok (.if_acmp .eq 21, 3) := by decide +kernel
theorem d3m15_21 : decode prog_3_method_15_code 21 = .ok (.aload_n 0, 1) := by decide +kernel
theorem d3m15_22 : decode prog_3_method_15_code 22 = .ok (.getstatic 31, 3) := by decide +kernel
theorem d3m15_25 : decode prog_3_method_15_code 25 = .ok (.if_acmp .eq 14, 3) := by decide +kernel
theorem d3m15_28 : decode prog_3_method_15_code 28 = .ok (.aload_n 0, 1) := by decide +kernel
theorem d3m15_29 : decode prog_3_method_15_code 29 = .ok (.getstatic 40, 3) := by decide +kernel
theorem d3m15_32 : decode prog_3_method_15_code 32 = .ok (.if_acmp .eq 7, 3) := by decide +kernel
theorem d3m15_35 : decode prog_3_method_15_code 35 = .ok (.iconst 1, 1) := by decide +kernel
theorem d3m15_36 : decode prog_3_method_15_code 36 = .ok (.goto 4, 3) := by decide +kernel
theorem d3m15_40 : decode prog_3_method_15_code 40 = .ok (.ireturn, 1) := by decide +kernel
theorem ef_lo0 (m : MethodId) (x0 : Addr) : entryFrame m #[(.ref x0)] 1 = mkF m 0 #[.val (.ref x0)] [] := by first | (simp [entryFrame, mkF, argsToLocals, Value.category]; done) | rfl
def Q_lo0 (Z : State) (A : Nat → Addr) (h0 : Heap) (n0 : Nat) (v : Option Value) (h : Heap) (L : List Loc) : Prop := v = some (.int (1 : Int32)) ∧ L = [] ∧ h = h0
set_option maxRecDepth 65536 in
set_option maxHeartbeats 40000000 in
theorem rm_lo0 (l : Launch) (Z : State) (a0 : Array Value) (hw : ∀ d ∈ tables_1, d.before a0 Z = true) (ws : List Jvm.Cond) (A : Nat → Addr) (h0 : Heap) (n0 : Nat) (Z0 : n0 ≤ h0.size) (hS : ∀ i, i < 13 → Sta Z h0 "com/example/pelt/pelt/Axis" (nmOf i) "Lcom/example/pelt/pelt/Axis;" (.ref (A i))) (hI : ∀ i j, i < 13 → j < 13 → A i = A j → i = j) :
    MetFree l (⟨"com/example/pelt/pelt/Axis", "listsOverlap", "()Z"⟩ : MethodName) (head1 (Jvm.Cond.code (⟨"com/example/pelt/pelt/Axis", "listsOverlap", "()Z"⟩ : MethodName) prog_3_method_15_code 1 (some .boolean) :: ws) ({ frames := 0, cells := 0, slots := 0, locals := 0 } : Room)) (fun a_ U => a_ = #[(.ref (A 0))] ∧ Z.Warmed39 U.vm ∧ U.heap = h0) (fun _ _ _ _ _ => True) (fun _ U o U' => ∃ v L, o = .returned v ∧ Q_lo0 Z A h0 n0 v U'.heap L ∧ FrameEnd U o U' L ({ frames := 0, cells := 0, slots := 0, locals := 0 } : Room).cells ({ frames := 0, cells := 0, slots := 0, locals := 0 } : Room).slots) := by
  refine MetFree.of_bodySF (plainFor_of_name pn_1) hisR ?_
  intro p e s m args below meth c s₁ Bd hml0 hP hK
  obtain ⟨rfl, hZ, hh⟩ := hP
  have hx := Bd.exec
  have hby := Bd.bytes
  have hlk : meth.locks = false := Bd.notSynchronized
  have hml : c.maxLocals = 1 := hml0
  have hown : s.vm.findClass "com/example/pelt/pelt/Axis" = some m.cls := findClass_of_methodNamed Bd.named
  have hnm := (name_of_methodNamed Bd.named Bd.method).1
  have X0 : Stand p l e ({ frames := 0, cells := 0, slots := 0, locals := 0 } : Room) s m #[(.ref (A 0))] below meth c s₁ [] 0 0 := Stand.of_body Bd
  have e0 : s₁.heap = h0 := by rw [← hh, Bd.state]; rfl
  have N0 := Fr.nil n0
  show OGets p e below (OLeaves s (Q_lo0 Z A h0 n0 ) ({ frames := 0, cells := 0, slots := 0, locals := 0 } : Room).cells ({ frames := 0, cells := 0, slots := 0, locals := 0 } : Room).slots) _
  refine OGets.enter (ef_lo0 m (A 0)) ?_
  show OGets p e below _ (s₁.setTop (mkF m 0 #[.val (.ref (A 0))] []))
  refine OGets.step (fun _ => XS.aloadN X0.here hx rfl (hb hby d3m15_0) rfl rfl) ?_
  show OGets p e below _ (s₁.setTop (mkF m 1 #[.val (.ref (A 0))] [(.ref (A 0))]))
  obtain ⟨T3, X3, e3, st3⟩ := getS2 X0 hx hZ hown (host := "") (Or.inl (hw _ (List.mem_of_getElem? (i := 13) rfl))) Via.refl e0 (show Sta Z h0 "com/example/pelt/pelt/Axis" "CHILD" "Lcom/example/pelt/pelt/Axis;" (.ref (A 3)) from hS 3 (by decide)) (g := (mkF m 1 #[.val (.ref (A 0))] [(.ref (A 0))])) rfl (hb hby d3m15_1)
  refine OGets.step st3 ?_
  show OGets p e below _ (T3.setTop (mkF m 4 #[.val (.ref (A 0))] [(.ref (A 3)), (.ref (A 0))]))
  refine OGets.step (fun _ => Jvm.RoadKit.acmp (g := (mkF m 4 #[.val (.ref (A 0))] [(.ref (A 3)), (.ref (A 0))])) X3 hx rfl rfl rfl (pc0 := 4) (pc' := 7) (same := false) rfl (hb hby d3m15_4) rfl (decide_eq_false fun q => absurd (hI 0 3 (by decide) (by decide) (Value.ref.inj q)) (by decide)) (by decide) (by decide)) ?_
  show OGets p e below _ (T3.setTop (mkF m 7 #[.val (.ref (A 0))] []))
  refine OGets.step (fun _ => XS.aloadN X3.here hx rfl (hb hby d3m15_7) rfl rfl) ?_
  show OGets p e below _ (T3.setTop (mkF m 8 #[.val (.ref (A 0))] [(.ref (A 0))]))
  obtain ⟨T4, X4, e4, st4⟩ := getS2 X3 hx hZ hown (host := "") (Or.inl (hw _ (List.mem_of_getElem? (i := 15) rfl))) Via.refl e3 (show Sta Z h0 "com/example/pelt/pelt/Axis" "ATTRIBUTE" "Lcom/example/pelt/pelt/Axis;" (.ref (A 2)) from hS 2 (by decide)) (g := (mkF m 8 #[.val (.ref (A 0))] [(.ref (A 0))])) rfl (hb hby d3m15_8)
  refine OGets.step st4 ?_
  show OGets p e below _ (T4.setTop (mkF m 11 #[.val (.ref (A 0))] [(.ref (A 2)), (.ref (A 0))]))
  refine OGets.step (fun _ => Jvm.RoadKit.acmp (g := (mkF m 11 #[.val (.ref (A 0))] [(.ref (A 2)), (.ref (A 0))])) X4 hx rfl rfl rfl (pc0 := 11) (pc' := 14) (same := false) rfl (hb hby d3m15_11) rfl (decide_eq_false fun q => absurd (hI 0 2 (by decide) (by decide) (Value.ref.inj q)) (by decide)) (by decide) (by decide)) ?_
  show OGets p e below _ (T4.setTop (mkF m 14 #[.val (.ref (A 0))] []))
  refine OGets.step (fun _ => XS.aloadN X4.here hx rfl (hb hby d3m15_14) rfl rfl) ?_
  show OGets p e below _ (T4.setTop (mkF m 15 #[.val (.ref (A 0))] [(.ref (A 0))]))
  obtain ⟨T5, X5, e5, st5⟩ := getS2 X4 hx hZ hown (host := "") (Or.inl (hw _ (List.mem_of_getElem? (i := 17) rfl))) Via.refl e4 (show Sta Z h0 "com/example/pelt/pelt/Axis" "NAMESPACE" "Lcom/example/pelt/pelt/Axis;" (.ref (A 8)) from hS 8 (by decide)) (g := (mkF m 15 #[.val (.ref (A 0))] [(.ref (A 0))])) rfl (hb hby d3m15_15)
  refine OGets.step st5 ?_
  show OGets p e below _ (T5.setTop (mkF m 18 #[.val (.ref (A 0))] [(.ref (A 8)), (.ref (A 0))]))
  refine OGets.step (fun _ => Jvm.RoadKit.acmp (g := (mkF m 18 #[.val (.ref (A 0))] [(.ref (A 8)), (.ref (A 0))])) X5 hx rfl rfl rfl (pc0 := 18) (pc' := 21) (same := false) rfl (hb hby d3m15_18) rfl (decide_eq_false fun q => absurd (hI 0 8 (by decide) (by decide) (Value.ref.inj q)) (by decide)) (by decide) (by decide)) ?_
  show OGets p e below _ (T5.setTop (mkF m 21 #[.val (.ref (A 0))] []))
  refine OGets.step (fun _ => XS.aloadN X5.here hx rfl (hb hby d3m15_21) rfl rfl) ?_
  show OGets p e below _ (T5.setTop (mkF m 22 #[.val (.ref (A 0))] [(.ref (A 0))]))
  obtain ⟨T6, X6, e6, st6⟩ := getS2 X5 hx hZ hown (host := "") (Or.inl (hw _ (List.mem_of_getElem? (i := 19) rfl))) Via.refl e5 (show Sta Z h0 "com/example/pelt/pelt/Axis" "PARENT" "Lcom/example/pelt/pelt/Axis;" (.ref (A 9)) from hS 9 (by decide)) (g := (mkF m 22 #[.val (.ref (A 0))] [(.ref (A 0))])) rfl (hb hby d3m15_22)
  refine OGets.step st6 ?_
  show OGets p e below _ (T6.setTop (mkF m 25 #[.val (.ref (A 0))] [(.ref (A 9)), (.ref (A 0))]))
  refine OGets.step (fun _ => Jvm.RoadKit.acmp (g := (mkF m 25 #[.val (.ref (A 0))] [(.ref (A 9)), (.ref (A 0))])) X6 hx rfl rfl rfl (pc0 := 25) (pc' := 28) (same := false) rfl (hb hby d3m15_25) rfl (decide_eq_false fun q => absurd (hI 0 9 (by decide) (by decide) (Value.ref.inj q)) (by decide)) (by decide) (by decide)) ?_
  show OGets p e below _ (T6.setTop (mkF m 28 #[.val (.ref (A 0))] []))
  refine OGets.step (fun _ => XS.aloadN X6.here hx rfl (hb hby d3m15_28) rfl rfl) ?_
  show OGets p e below _ (T6.setTop (mkF m 29 #[.val (.ref (A 0))] [(.ref (A 0))]))
  obtain ⟨T7, X7, e7, st7⟩ := getS2 X6 hx hZ hown (host := "") (Or.inl (hw _ (List.mem_of_getElem? (i := 21) rfl))) Via.refl e6 (show Sta Z h0 "com/example/pelt/pelt/Axis" "SELF" "Lcom/example/pelt/pelt/Axis;" (.ref (A 12)) from hS 12 (by decide)) (g := (mkF m 29 #[.val (.ref (A 0))] [(.ref (A 0))])) rfl (hb hby d3m15_29)
  refine OGets.step st7 ?_
  show OGets p e below _ (T7.setTop (mkF m 32 #[.val (.ref (A 0))] [(.ref (A 12)), (.ref (A 0))]))
  refine OGets.step (fun _ => Jvm.RoadKit.acmp (g := (mkF m 32 #[.val (.ref (A 0))] [(.ref (A 12)), (.ref (A 0))])) X7 hx rfl rfl rfl (pc0 := 32) (pc' := 35) (same := false) rfl (hb hby d3m15_32) rfl (decide_eq_false fun q => absurd (hI 0 12 (by decide) (by decide) (Value.ref.inj q)) (by decide)) (by decide) (by decide)) ?_
  show OGets p e below _ (T7.setTop (mkF m 35 #[.val (.ref (A 0))] []))
  refine OGets.step (fun _ => XS.iconst X7.here hx rfl (hb hby d3m15_35)) ?_
  show OGets p e below _ (T7.setTop (mkF m 36 #[.val (.ref (A 0))] [(.int (1 : Int32))]))
  refine OGets.step (fun _ => XS.goto X7.here hx rfl (pc0 := 36) (pc' := 40) rfl (hb hby d3m15_36) (by decide) (by decide)) ?_
  show OGets p e below _ (T7.setTop (mkF m 40 #[.val (.ref (A 0))] [(.int (1 : Int32))]))
  refine OGets.retN X7 hx hlk (t := .boolean) Bd.returns (by simp) (hb hby d3m15_40) (Nat.le_of_ble_eq_true rfl) (Nat.le_of_ble_eq_true rfl) ?_
  exact ⟨rfl, rfl, e7⟩
theorem d3m6_0 : decode prog_3_method_6_code 0 = .ok (.aload_n 0, 1) := by decide +kernel
theorem d3m6_1 : decode prog_3_method_6_code 1 = .ok (.getstatic 3, 3) := by decide +kernel
theorem d3m6_4 : decode prog_3_method_6_code 4 = .ok (.if_acmp .eq 24, 3) := by decide +kernel
theorem d3m6_28 : decode prog_3_method_6_code 28 = .ok (.iconst 1, 1) := by decide +kernel
theorem d3m6_29 : decode prog_3_method_6_code 29 = .ok (.goto 4, 3) := by decide +kernel
theorem d3m6_33 : decode prog_3_method_6_code 33 = .ok (.ireturn, 1) := by decide +kernel
theorem ef_rv0 (m : MethodId) (x0 : Addr) : entryFrame m #[(.ref x0)] 1 = mkF m 0 #[.val (.ref x0)] [] := by first | (simp [entryFrame, mkF, argsToLocals, Value.category]; done) | rfl
def Q_rv0 (Z : State) (A : Nat → Addr) (h0 : Heap) (n0 : Nat) (v : Option Value) (h : Heap) (L : List Loc) : Prop := v = some (.int (1 : Int32)) ∧ L = [] ∧ h = h0
set_option maxRecDepth 65536 in
set_option maxHeartbeats 40000000 in
theorem rm_rv0 (l : Launch) (Z : State) (a0 : Array Value) (hw : ∀ d ∈ tables_1, d.before a0 Z = true) (ws : List Jvm.Cond) (A : Nat → Addr) (h0 : Heap) (n0 : Nat) (Z0 : n0 ≤ h0.size) (hS : ∀ i, i < 13 → Sta Z h0 "com/example/pelt/pelt/Axis" (nmOf i) "Lcom/example/pelt/pelt/Axis;" (.ref (A i))) (hI : ∀ i j, i < 13 → j < 13 → A i = A j → i = j) :
    MetFree l (⟨"com/example/pelt/pelt/Axis", "isReverse", "()Z"⟩ : MethodName) (head1 (Jvm.Cond.code (⟨"com/example/pelt/pelt/Axis", "isReverse", "()Z"⟩ : MethodName) prog_3_method_6_code 1 (some .boolean) :: ws) ({ frames := 0, cells := 0, slots := 0, locals := 0 } : Room)) (fun a_ U => a_ = #[(.ref (A 0))] ∧ Z.Warmed39 U.vm ∧ U.heap = h0) (fun _ _ _ _ _ => True) (fun _ U o U' => ∃ v L, o = .returned v ∧ Q_rv0 Z A h0 n0 v U'.heap L ∧ FrameEnd U o U' L ({ frames := 0, cells := 0, slots := 0, locals := 0 } : Room).cells ({ frames := 0, cells := 0, slots := 0, locals := 0 } : Room).slots) := by
  refine MetFree.of_bodySF (plainFor_of_name pn_1) hisR ?_
  intro p e s m args below meth c s₁ Bd hml0 hP hK
  obtain ⟨rfl, hZ, hh⟩ := hP
  have hx := Bd.exec
  have hby := Bd.bytes
  have hlk : meth.locks = false := Bd.notSynchronized
  have hml : c.maxLocals = 1 := hml0
  have hown : s.vm.findClass "com/example/pelt/pelt/Axis" = some m.cls := findClass_of_methodNamed Bd.named
  have hnm := (name_of_methodNamed Bd.named Bd.method).1
  have X0 : Stand p l e ({ frames := 0, cells := 0, slots := 0, locals := 0 } : Room) s m #[(.ref (A 0))] below meth c s₁ [] 0 0 := Stand.of_body Bd
  have e0 : s₁.heap = h0 := by rw [← hh, Bd.state]; rfl
  have N0 := Fr.nil n0
  show OGets p e below (OLeaves s (Q_rv0 Z A h0 n0 ) ({ frames := 0, cells := 0, slots := 0, locals := 0 } : Room).cells ({ frames := 0, cells := 0, slots := 0, locals := 0 } : Room).slots) _
  refine OGets.enter (ef_rv0 m (A 0)) ?_
  show OGets p e below _ (s₁.setTop (mkF m 0 #[.val (.ref (A 0))] []))
  refine OGets.step (fun _ => XS.aloadN X0.here hx rfl (hb hby d3m6_0) rfl rfl) ?_
  show OGets p e below _ (s₁.setTop (mkF m 1 #[.val (.ref (A 0))] [(.ref (A 0))]))
  obtain ⟨T8, X8, e8, st8⟩ := getS2 X0 hx hZ hown (host := "") (Or.inl (hw _ (List.mem_of_getElem? (i := 28) rfl))) Via.refl e0 (show Sta Z h0 "com/example/pelt/pelt/Axis" "ANCESTOR" "Lcom/example/pelt/pelt/Axis;" (.ref (A 0)) from hS 0 (by decide)) (g := (mkF m 1 #[.val (.ref (A 0))] [(.ref (A 0))])) rfl (hb hby d3m6_1)
  refine OGets.step st8 ?_
  show OGets p e below _ (T8.setTop (mkF m 4 #[.val (.ref (A 0))] [(.ref (A 0)), (.ref (A 0))]))
  refine OGets.step (fun _ => Jvm.RoadKit.acmp (g := (mkF m 4 #[.val (.ref (A 0))] [(.ref (A 0)), (.ref (A 0))])) X8 hx rfl rfl rfl (pc0 := 4) (pc' := 28) (same := true) rfl (hb hby d3m6_4) rfl (decide_eq_true rfl) (by decide) (by decide)) ?_
  show OGets p e below _ (T8.setTop (mkF m 28 #[.val (.ref (A 0))] []))
  refine OGets.step (fun _ => XS.iconst X8.here hx rfl (hb hby d3m6_28)) ?_
  show OGets p e below _ (T8.setTop (mkF m 29 #[.val (.ref (A 0))] [(.int (1 : Int32))]))
  refine OGets.step (fun _ => XS.goto X8.here hx rfl (pc0 := 29) (pc' := 33) rfl (hb hby d3m6_29) (by decide) (by decide)) ?_
  show OGets p e below _ (T8.setTop (mkF m 33 #[.val (.ref (A 0))] [(.int (1 : Int32))]))
  refine OGets.retN X8 hx hlk (t := .boolean) Bd.returns (by simp) (hb hby d3m6_33) (Nat.le_of_ble_eq_true rfl) (Nat.le_of_ble_eq_true rfl) ?_
  exact ⟨rfl, rfl, e8⟩
theorem dm3_0 : decode method_3_code 0 = .ok (.iload_n 0, 1) := by decide +kernel
theorem dm3_1 : decode method_3_code 1 = .ok (.ifCond .eq 8, 3) := by decide +kernel
theorem dm3_9 : decode method_3_code 9 = .ok (.iconst 1, 1) := by decide +kernel
theorem dm3_10 : decode method_3_code 10 = .ok (.goto 4, 3) := by decide +kernel
theorem dm3_14 : decode method_3_code 14 = .ok (.istore_n 1, 1) := by decide +kernel
theorem dm3_15 : decode method_3_code 15 = .ok (.iload_n 0, 1) := by decide +kernel
theorem dm3_16 : decode method_3_code 16 = .ok (.iconst 4, 1) := by decide +kernel
theorem dm3_17 : decode method_3_code 17 = .ok (.if_icmp .eq 8, 3) := by decide +kernel
theorem dm3_20 : decode method_3_code 20 = .ok (.iload_n 0, 1) := by decide +kernel
theorem dm3_21 : decode method_3_code 21 = .ok (.iconst 5, 1) := by decide +kernel
theorem dm3_22 : decode method_3_code 22 = .ok (.if_icmp .ne 7, 3) := by decide +kernel
theorem dm3_29 : decode method_3_code 29 = .ok (.iconst 0, 1) := by decide +kernel
theorem dm3_30 : decode method_3_code 30 = .ok (.istore_n 2, 1) := by decide +kernel
theorem dm3_31 : decode method_3_code 31 = .ok (.iload_n 0, 1) := by decide +kernel
theorem dm3_32 : decode method_3_code 32 = .ok (.bipush 6, 2) := by decide +kernel
theorem dm3_34 : decode method_3_code 34 = .ok (.if_icmp .eq 9, 3) := by decide +kernel
theorem dm3_37 : decode method_3_code 37 = .ok (.iload_n 0, 1) := by decide +kernel
theorem dm3_38 : decode method_3_code 38 = .ok (.bipush 7, 2) := by decide +kernel
theorem dm3_40 : decode method_3_code 40 = .ok (.if_icmp .ne 7, 3) := by decide +kernel
theorem dm3_47 : decode method_3_code 47 = .ok (.iconst 0, 1) := by decide +kernel
theorem dm3_48 : decode method_3_code 48 = .ok (.istore_n 3, 1) := by decide +kernel
theorem dm3_49 : decode method_3_code 49 = .ok (.iload_n 0, 1) := by decide +kernel
theorem dm3_50 : decode method_3_code 50 = .ok (.bipush 10, 2) := by decide +kernel
theorem dm3_52 : decode method_3_code 52 = .ok (.if_icmp .eq 9, 3) := by decide +kernel
theorem dm3_55 : decode method_3_code 55 = .ok (.iload_n 0, 1) := by decide +kernel
theorem dm3_56 : decode method_3_code 56 = .ok (.bipush 11, 2) := by decide +kernel
theorem dm3_58 : decode method_3_code 58 = .ok (.if_icmp .ne 7, 3) := by decide +kernel
theorem dm3_65 : decode method_3_code 65 = .ok (.iconst 0, 1) := by decide +kernel
theorem dm3_66 : decode method_3_code 66 = .ok (.istore 4, 2) := by decide +kernel
theorem dm3_68 : decode method_3_code 68 = .ok (.iload_n 1, 1) := by decide +kernel
theorem dm3_69 : decode method_3_code 69 = .ok (.ifCond .ne 16, 3) := by decide +kernel
theorem dm3_85 : decode method_3_code 85 = .ok (.iconst 1, 1) := by decide +kernel
theorem dm3_86 : decode method_3_code 86 = .ok (.goto 4, 3) := by decide +kernel
theorem dm3_90 : decode method_3_code 90 = .ok (.ireturn, 1) := by decide +kernel
theorem ef_ex0 (m : MethodId) (x0 : Int32) : entryFrame m #[(.int x0)] 5 = mkF m 0 #[.val (.int x0), .unset, .unset, .unset, .unset] [] := by first | (simp [entryFrame, mkF, argsToLocals, Value.category]; done) | rfl
def Q_ex0 (Z : State)  (h0 : Heap) (n0 : Nat) (v : Option Value) (h : Heap) (L : List Loc) : Prop := v = some (.int (1 : Int32)) ∧ L = [] ∧ h = h0
set_option maxRecDepth 65536 in
set_option maxHeartbeats 40000000 in
theorem rm_ex0 (l : Launch) (Z : State) (a0 : Array Value) (hw : ∀ d ∈ tables_1, d.before a0 Z = true) (ws : List Jvm.Cond)  (h0 : Heap) (n0 : Nat) (Z0 : n0 ≤ h0.size) :
    MetFree l (⟨"com/example/pelt/pelt/AxisListsOverlapPinLaw", "expected", "(I)Z"⟩ : MethodName) (head1 (Jvm.Cond.code (⟨"com/example/pelt/pelt/AxisListsOverlapPinLaw", "expected", "(I)Z"⟩ : MethodName) method_3_code 5 (some .boolean) :: ws) ({ frames := 0, cells := 0, slots := 0, locals := 0 } : Room)) (fun a_ U => a_ = #[(.int (0 : Int32))] ∧ Z.Warmed39 U.vm ∧ U.heap = h0) (fun _ _ _ _ _ => True) (fun _ U o U' => ∃ v L, o = .returned v ∧ Q_ex0 Z  h0 n0 v U'.heap L ∧ FrameEnd U o U' L ({ frames := 0, cells := 0, slots := 0, locals := 0 } : Room).cells ({ frames := 0, cells := 0, slots := 0, locals := 0 } : Room).slots) := by
  refine MetFree.of_bodySF (plainFor_of_name pn_0) hisR ?_
  intro p e s m args below meth c s₁ Bd hml0 hP hK
  obtain ⟨rfl, hZ, hh⟩ := hP
  have hx := Bd.exec
  have hby := Bd.bytes
  have hlk : meth.locks = false := Bd.notSynchronized
  have hml : c.maxLocals = 5 := hml0
  have hown : s.vm.findClass "com/example/pelt/pelt/AxisListsOverlapPinLaw" = some m.cls := findClass_of_methodNamed Bd.named
  have hnm := (name_of_methodNamed Bd.named Bd.method).1
  have X0 : Stand p l e ({ frames := 0, cells := 0, slots := 0, locals := 0 } : Room) s m #[(.int (0 : Int32))] below meth c s₁ [] 0 0 := Stand.of_body Bd
  have e0 : s₁.heap = h0 := by rw [← hh, Bd.state]; rfl
  have N0 := Fr.nil n0
  show OGets p e below (OLeaves s (Q_ex0 Z  h0 n0 ) ({ frames := 0, cells := 0, slots := 0, locals := 0 } : Room).cells ({ frames := 0, cells := 0, slots := 0, locals := 0 } : Room).slots) _
  refine OGets.enter (ef_ex0 m (0 : Int32)) ?_
  show OGets p e below _ (s₁.setTop (mkF m 0 #[.val (.int (0 : Int32)), .unset, .unset, .unset, .unset] []))
  refine OGets.step (fun _ => XS.iloadN X0.here hx rfl (hb hby dm3_0) rfl) ?_
  show OGets p e below _ (s₁.setTop (mkF m 1 #[.val (.int (0 : Int32)), .unset, .unset, .unset, .unset] [(.int (0 : Int32))]))
  refine OGets.step (fun _ => XS.ifYes X0.here hx rfl (pc0 := 1) (pc' := 9) rfl (hb hby dm3_1) rfl ((if0 _ _).trans (teq (by decide : (0 : Int32) = (0 : Int32))).1) (by decide) (by decide)) ?_
  show OGets p e below _ (s₁.setTop (mkF m 9 #[.val (.int (0 : Int32)), .unset, .unset, .unset, .unset] []))
  refine OGets.step (fun _ => XS.iconst X0.here hx rfl (hb hby dm3_9)) ?_
  show OGets p e below _ (s₁.setTop (mkF m 10 #[.val (.int (0 : Int32)), .unset, .unset, .unset, .unset] [(.int (1 : Int32))]))
  refine OGets.step (fun _ => XS.goto X0.here hx rfl (pc0 := 10) (pc' := 14) rfl (hb hby dm3_10) (by decide) (by decide)) ?_
  show OGets p e below _ (s₁.setTop (mkF m 14 #[.val (.int (0 : Int32)), .unset, .unset, .unset, .unset] [(.int (1 : Int32))]))
  refine OGets.step (fun _ => XS.istoreN X0.here hx rfl (hb hby dm3_14) rfl (l' := #[.val (.int (0 : Int32)), .val (.int (1 : Int32)), .unset, .unset, .unset]) rfl) ?_
  show OGets p e below _ (s₁.setTop (mkF m 15 #[.val (.int (0 : Int32)), .val (.int (1 : Int32)), .unset, .unset, .unset] []))
  refine OGets.step (fun _ => XS.iloadN X0.here hx rfl (hb hby dm3_15) rfl) ?_
  show OGets p e below _ (s₁.setTop (mkF m 16 #[.val (.int (0 : Int32)), .val (.int (1 : Int32)), .unset, .unset, .unset] [(.int (0 : Int32))]))
  refine OGets.step (fun _ => XS.iconst X0.here hx rfl (hb hby dm3_16)) ?_
  show OGets p e below _ (s₁.setTop (mkF m 17 #[.val (.int (0 : Int32)), .val (.int (1 : Int32)), .unset, .unset, .unset] [(.int (4 : Int32)), (.int (0 : Int32))]))
  refine OGets.step (fun _ => XS.icmpNo X0.here hx rfl (hb hby dm3_17) rfl (feq (by decide : ¬ ((0 : Int32) = (4 : Int32)))).1) ?_
  show OGets p e below _ (s₁.setTop (mkF m 20 #[.val (.int (0 : Int32)), .val (.int (1 : Int32)), .unset, .unset, .unset] []))
  refine OGets.step (fun _ => XS.iloadN X0.here hx rfl (hb hby dm3_20) rfl) ?_
  show OGets p e below _ (s₁.setTop (mkF m 21 #[.val (.int (0 : Int32)), .val (.int (1 : Int32)), .unset, .unset, .unset] [(.int (0 : Int32))]))
  refine OGets.step (fun _ => XS.iconst X0.here hx rfl (hb hby dm3_21)) ?_
  show OGets p e below _ (s₁.setTop (mkF m 22 #[.val (.int (0 : Int32)), .val (.int (1 : Int32)), .unset, .unset, .unset] [(.int (5 : Int32)), (.int (0 : Int32))]))
  refine OGets.step (fun _ => XS.icmpYes X0.here hx rfl (pc0 := 22) (pc' := 29) rfl (hb hby dm3_22) rfl (feq (by decide : ¬ ((0 : Int32) = (5 : Int32)))).2 (by decide) (by decide)) ?_
  show OGets p e below _ (s₁.setTop (mkF m 29 #[.val (.int (0 : Int32)), .val (.int (1 : Int32)), .unset, .unset, .unset] []))
  refine OGets.step (fun _ => XS.iconst X0.here hx rfl (hb hby dm3_29)) ?_
  show OGets p e below _ (s₁.setTop (mkF m 30 #[.val (.int (0 : Int32)), .val (.int (1 : Int32)), .unset, .unset, .unset] [(.int (0 : Int32))]))
  refine OGets.step (fun _ => XS.istoreN X0.here hx rfl (hb hby dm3_30) rfl (l' := #[.val (.int (0 : Int32)), .val (.int (1 : Int32)), .val (.int (0 : Int32)), .unset, .unset]) rfl) ?_
  show OGets p e below _ (s₁.setTop (mkF m 31 #[.val (.int (0 : Int32)), .val (.int (1 : Int32)), .val (.int (0 : Int32)), .unset, .unset] []))
  refine OGets.step (fun _ => XS.iloadN X0.here hx rfl (hb hby dm3_31) rfl) ?_
  show OGets p e below _ (s₁.setTop (mkF m 32 #[.val (.int (0 : Int32)), .val (.int (1 : Int32)), .val (.int (0 : Int32)), .unset, .unset] [(.int (0 : Int32))]))
  refine OGets.step (fun _ => XS.bipush X0.here hx rfl (hb hby dm3_32)) ?_
  show OGets p e below _ (s₁.setTop (mkF m 34 #[.val (.int (0 : Int32)), .val (.int (1 : Int32)), .val (.int (0 : Int32)), .unset, .unset] [(.int (6 : Int32)), (.int (0 : Int32))]))
  refine OGets.step (fun _ => XS.icmpNo X0.here hx rfl (hb hby dm3_34) rfl (feq (by decide : ¬ ((0 : Int32) = (6 : Int32)))).1) ?_
  show OGets p e below _ (s₁.setTop (mkF m 37 #[.val (.int (0 : Int32)), .val (.int (1 : Int32)), .val (.int (0 : Int32)), .unset, .unset] []))
  refine OGets.step (fun _ => XS.iloadN X0.here hx rfl (hb hby dm3_37) rfl) ?_
  show OGets p e below _ (s₁.setTop (mkF m 38 #[.val (.int (0 : Int32)), .val (.int (1 : Int32)), .val (.int (0 : Int32)), .unset, .unset] [(.int (0 : Int32))]))
  refine OGets.step (fun _ => XS.bipush X0.here hx rfl (hb hby dm3_38)) ?_
  show OGets p e below _ (s₁.setTop (mkF m 40 #[.val (.int (0 : Int32)), .val (.int (1 : Int32)), .val (.int (0 : Int32)), .unset, .unset] [(.int (7 : Int32)), (.int (0 : Int32))]))
  refine OGets.step (fun _ => XS.icmpYes X0.here hx rfl (pc0 := 40) (pc' := 47) rfl (hb hby dm3_40) rfl (feq (by decide : ¬ ((0 : Int32) = (7 : Int32)))).2 (by decide) (by decide)) ?_
  show OGets p e below _ (s₁.setTop (mkF m 47 #[.val (.int (0 : Int32)), .val (.int (1 : Int32)), .val (.int (0 : Int32)), .unset, .unset] []))
  refine OGets.step (fun _ => XS.iconst X0.here hx rfl (hb hby dm3_47)) ?_
  show OGets p e below _ (s₁.setTop (mkF m 48 #[.val (.int (0 : Int32)), .val (.int (1 : Int32)), .val (.int (0 : Int32)), .unset, .unset] [(.int (0 : Int32))]))
  refine OGets.step (fun _ => XS.istoreN X0.here hx rfl (hb hby dm3_48) rfl (l' := #[.val (.int (0 : Int32)), .val (.int (1 : Int32)), .val (.int (0 : Int32)), .val (.int (0 : Int32)), .unset]) rfl) ?_
  show OGets p e below _ (s₁.setTop (mkF m 49 #[.val (.int (0 : Int32)), .val (.int (1 : Int32)), .val (.int (0 : Int32)), .val (.int (0 : Int32)), .unset] []))
  refine OGets.step (fun _ => XS.iloadN X0.here hx rfl (hb hby dm3_49) rfl) ?_
  show OGets p e below _ (s₁.setTop (mkF m 50 #[.val (.int (0 : Int32)), .val (.int (1 : Int32)), .val (.int (0 : Int32)), .val (.int (0 : Int32)), .unset] [(.int (0 : Int32))]))
  refine OGets.step (fun _ => XS.bipush X0.here hx rfl (hb hby dm3_50)) ?_
  show OGets p e below _ (s₁.setTop (mkF m 52 #[.val (.int (0 : Int32)), .val (.int (1 : Int32)), .val (.int (0 : Int32)), .val (.int (0 : Int32)), .unset] [(.int (10 : Int32)), (.int (0 : Int32))]))
  refine OGets.step (fun _ => XS.icmpNo X0.here hx rfl (hb hby dm3_52) rfl (feq (by decide : ¬ ((0 : Int32) = (10 : Int32)))).1) ?_
  show OGets p e below _ (s₁.setTop (mkF m 55 #[.val (.int (0 : Int32)), .val (.int (1 : Int32)), .val (.int (0 : Int32)), .val (.int (0 : Int32)), .unset] []))
  refine OGets.step (fun _ => XS.iloadN X0.here hx rfl (hb hby dm3_55) rfl) ?_
  show OGets p e below _ (s₁.setTop (mkF m 56 #[.val (.int (0 : Int32)), .val (.int (1 : Int32)), .val (.int (0 : Int32)), .val (.int (0 : Int32)), .unset] [(.int (0 : Int32))]))
  refine OGets.step (fun _ => XS.bipush X0.here hx rfl (hb hby dm3_56)) ?_
  show OGets p e below _ (s₁.setTop (mkF m 58 #[.val (.int (0 : Int32)), .val (.int (1 : Int32)), .val (.int (0 : Int32)), .val (.int (0 : Int32)), .unset] [(.int (11 : Int32)), (.int (0 : Int32))]))
  refine OGets.step (fun _ => XS.icmpYes X0.here hx rfl (pc0 := 58) (pc' := 65) rfl (hb hby dm3_58) rfl (feq (by decide : ¬ ((0 : Int32) = (11 : Int32)))).2 (by decide) (by decide)) ?_
  show OGets p e below _ (s₁.setTop (mkF m 65 #[.val (.int (0 : Int32)), .val (.int (1 : Int32)), .val (.int (0 : Int32)), .val (.int (0 : Int32)), .unset] []))
  refine OGets.step (fun _ => XS.iconst X0.here hx rfl (hb hby dm3_65)) ?_
  show OGets p e below _ (s₁.setTop (mkF m 66 #[.val (.int (0 : Int32)), .val (.int (1 : Int32)), .val (.int (0 : Int32)), .val (.int (0 : Int32)), .unset] [(.int (0 : Int32))]))
  refine OGets.step (fun _ => XS.istore X0.here hx rfl (hb hby dm3_66) rfl (l' := #[.val (.int (0 : Int32)), .val (.int (1 : Int32)), .val (.int (0 : Int32)), .val (.int (0 : Int32)), .val (.int (0 : Int32))]) rfl) ?_
  show OGets p e below _ (s₁.setTop (mkF m 68 #[.val (.int (0 : Int32)), .val (.int (1 : Int32)), .val (.int (0 : Int32)), .val (.int (0 : Int32)), .val (.int (0 : Int32))] []))
  refine OGets.step (fun _ => XS.iloadN X0.here hx rfl (hb hby dm3_68) rfl) ?_
  show OGets p e below _ (s₁.setTop (mkF m 69 #[.val (.int (0 : Int32)), .val (.int (1 : Int32)), .val (.int (0 : Int32)), .val (.int (0 : Int32)), .val (.int (0 : Int32))] [(.int (1 : Int32))]))
  refine OGets.step (fun _ => XS.ifYes X0.here hx rfl (pc0 := 69) (pc' := 85) rfl (hb hby dm3_69) rfl ((if0 _ _).trans (feq (by decide : ¬ ((1 : Int32) = (0 : Int32)))).2) (by decide) (by decide)) ?_
  show OGets p e below _ (s₁.setTop (mkF m 85 #[.val (.int (0 : Int32)), .val (.int (1 : Int32)), .val (.int (0 : Int32)), .val (.int (0 : Int32)), .val (.int (0 : Int32))] []))
  refine OGets.step (fun _ => XS.iconst X0.here hx rfl (hb hby dm3_85)) ?_
  show OGets p e below _ (s₁.setTop (mkF m 86 #[.val (.int (0 : Int32)), .val (.int (1 : Int32)), .val (.int (0 : Int32)), .val (.int (0 : Int32)), .val (.int (0 : Int32))] [(.int (1 : Int32))]))
  refine OGets.step (fun _ => XS.goto X0.here hx rfl (pc0 := 86) (pc' := 90) rfl (hb hby dm3_86) (by decide) (by decide)) ?_
  show OGets p e below _ (s₁.setTop (mkF m 90 #[.val (.int (0 : Int32)), .val (.int (1 : Int32)), .val (.int (0 : Int32)), .val (.int (0 : Int32)), .val (.int (0 : Int32))] [(.int (1 : Int32))]))
  refine OGets.retN X0 hx hlk (t := .boolean) Bd.returns (by simp) (hb hby dm3_90) (Nat.le_of_ble_eq_true rfl) (Nat.le_of_ble_eq_true rfl) ?_
  exact ⟨rfl, rfl, e0⟩
theorem dm2_8 : decode method_2_code 8 = .ok (.iload_n 0, 1) := by decide +kernel
theorem dm2_9 : decode method_2_code 9 = .ok (.iconst 1, 1) := by decide +kernel
theorem dm2_10 : decode method_2_code 10 = .ok (.if_icmp .ne 7, 3) := by decide +kernel
theorem dm2_13 : decode method_2_code 13 = .ok (.getstatic 13, 3) := by decide +kernel
theorem dm2_16 : decode method_2_code 16 = .ok (.areturn, 1) := by decide +kernel
theorem ef_pk1 (m : MethodId) (x0 : Int32) : entryFrame m #[(.int x0)] 1 = mkF m 0 #[.val (.int x0)] [] := by first | (simp [entryFrame, mkF, argsToLocals, Value.category]; done) | rfl
def Q_pk1 (Z : State) (A : Nat → Addr) (h0 : Heap) (n0 : Nat) (v : Option Value) (h : Heap) (L : List Loc) : Prop := v = some (.ref (A 1)) ∧ L = [] ∧ h = h0
set_option maxRecDepth 65536 in
set_option maxHeartbeats 40000000 in
theorem rm_pk1 (l : Launch) (Z : State) (a0 : Array Value) (hw : ∀ d ∈ tables_1, d.before a0 Z = true) (ws : List Jvm.Cond) (A : Nat → Addr) (h0 : Heap) (n0 : Nat) (Z0 : n0 ≤ h0.size) (hS : ∀ i, i < 13 → Sta Z h0 "com/example/pelt/pelt/Axis" (nmOf i) "Lcom/example/pelt/pelt/Axis;" (.ref (A i))) (hI : ∀ i j, i < 13 → j < 13 → A i = A j → i = j) :
    MetFree l (⟨"com/example/pelt/pelt/AxisListsOverlapPinLaw", "pick", "(I)Lcom/example/pelt/pelt/Axis;"⟩ : MethodName) (head1 (Jvm.Cond.code (⟨"com/example/pelt/pelt/AxisListsOverlapPinLaw", "pick", "(I)Lcom/example/pelt/pelt/Axis;"⟩ : MethodName) method_2_code 1 (some (.object "com/example/pelt/pelt/Axis")) :: ws) ({ frames := 0, cells := 0, slots := 0, locals := 0 } : Room)) (fun a_ U => a_ = #[(.int (1 : Int32))] ∧ Z.Warmed39 U.vm ∧ U.heap = h0) (fun _ _ _ _ _ => True) (fun _ U o U' => ∃ v L, o = .returned v ∧ Q_pk1 Z A h0 n0 v U'.heap L ∧ FrameEnd U o U' L ({ frames := 0, cells := 0, slots := 0, locals := 0 } : Room).cells ({ frames := 0, cells := 0, slots := 0, locals := 0 } : Room).slots) := by
  refine MetFree.of_bodySF (plainFor_of_name pn_0) hisR ?_
  intro p e s m args below meth c s₁ Bd hml0 hP hK
  obtain ⟨rfl, hZ, hh⟩ := hP
  have hx := Bd.exec
  have hby := Bd.bytes
  have hlk : meth.locks = false := Bd.notSynchronized
  have hml : c.maxLocals = 1 := hml0
  have hown : s.vm.findClass "com/example/pelt/pelt/AxisListsOverlapPinLaw" = some m.cls := findClass_of_methodNamed Bd.named
  have hnm := (name_of_methodNamed Bd.named Bd.method).1
  have X0 : Stand p l e ({ frames := 0, cells := 0, slots := 0, locals := 0 } : Room) s m #[(.int (1 : Int32))] below meth c s₁ [] 0 0 := Stand.of_body Bd
  have e0 : s₁.heap = h0 := by rw [← hh, Bd.state]; rfl
  have N0 := Fr.nil n0
  show OGets p e below (OLeaves s (Q_pk1 Z A h0 n0 ) ({ frames := 0, cells := 0, slots := 0, locals := 0 } : Room).cells ({ frames := 0, cells := 0, slots := 0, locals := 0 } : Room).slots) _
  refine OGets.enter (ef_pk1 m (1 : Int32)) ?_
  show OGets p e below _ (s₁.setTop (mkF m 0 #[.val (.int (1 : Int32))] []))
  refine OGets.step (fun _ => XS.iloadN X0.here hx rfl (hb hby dm2_0) rfl) ?_
  show OGets p e below _ (s₁.setTop (mkF m 1 #[.val (.int (1 : Int32))] [(.int (1 : Int32))]))
  refine OGets.step (fun _ => XS.ifYes X0.here hx rfl (pc0 := 1) (pc' := 8) rfl (hb hby dm2_1) rfl ((if0 _ _).trans (feq (by decide : ¬ ((1 : Int32) = (0 : Int32)))).2) (by decide) (by decide)) ?_
  show OGets p e below _ (s₁.setTop (mkF m 8 #[.val (.int (1 : Int32))] []))
  refine OGets.step (fun _ => XS.iloadN X0.here hx rfl (hb hby dm2_8) rfl) ?_
  show OGets p e below _ (s₁.setTop (mkF m 9 #[.val (.int (1 : Int32))] [(.int (1 : Int32))]))
  refine OGets.step (fun _ => XS.iconst X0.here hx rfl (hb hby dm2_9)) ?_
  show OGets p e below _ (s₁.setTop (mkF m 10 #[.val (.int (1 : Int32))] [(.int (1 : Int32)), (.int (1 : Int32))]))
  refine OGets.step (fun _ => XS.icmpNo X0.here hx rfl (hb hby dm2_10) rfl (teq (by decide : (1 : Int32) = (1 : Int32))).2) ?_
  show OGets p e below _ (s₁.setTop (mkF m 13 #[.val (.int (1 : Int32))] []))
  obtain ⟨T19, X19, e19, st19⟩ := getS2 X0 hx hZ hown (host := "") (Or.inl (hw _ (List.mem_of_getElem? (i := 62) rfl))) Via.refl e0 (show Sta Z h0 "com/example/pelt/pelt/Axis" "ANCESTOR_OR_SELF" "Lcom/example/pelt/pelt/Axis;" (.ref (A 1)) from hS 1 (by decide)) (g := (mkF m 13 #[.val (.int (1 : Int32))] [])) rfl (hb hby dm2_13)
  refine OGets.step st19 ?_
  show OGets p e below _ (T19.setTop (mkF m 16 #[.val (.int (1 : Int32))] [(.ref (A 1))]))
  refine OGets.retA X19 hx hlk (t := (.object "com/example/pelt/pelt/Axis")) Bd.returns rfl rfl rfl (hb hby dm2_16) (Nat.le_of_ble_eq_true rfl) (Nat.le_of_ble_eq_true rfl) ?_
  exact ⟨rfl, rfl, e19⟩
theorem ef_lo1 (m : MethodId) (x0 : Addr) : entryFrame m #[(.ref x0)] 1 = mkF m 0 #[.val (.ref x0)] [] := by first | (simp [entryFrame, mkF, argsToLocals, Value.category]; done) | rfl
def Q_lo1 (Z : State) (A : Nat → Addr) (h0 : Heap) (n0 : Nat) (v : Option Value) (h : Heap) (L : List Loc) : Prop := v = some (.int (1 : Int32)) ∧ L = [] ∧ h = h0
set_option maxRecDepth 65536 in
set_option maxHeartbeats 40000000 in
theorem rm_lo1 (l : Launch) (Z : State) (a0 : Array Value) (hw : ∀ d ∈ tables_1, d.before a0 Z = true) (ws : List Jvm.Cond) (A : Nat → Addr) (h0 : Heap) (n0 : Nat) (Z0 : n0 ≤ h0.size) (hS : ∀ i, i < 13 → Sta Z h0 "com/example/pelt/pelt/Axis" (nmOf i) "Lcom/example/pelt/pelt/Axis;" (.ref (A i))) (hI : ∀ i j, i < 13 → j < 13 → A i = A j → i = j) :
    MetFree l (⟨"com/example/pelt/pelt/Axis", "listsOverlap", "()Z"⟩ : MethodName) (head1 (Jvm.Cond.code (⟨"com/example/pelt/pelt/Axis", "listsOverlap", "()Z"⟩ : MethodName) prog_3_method_15_code 1 (some .boolean) :: ws) ({ frames := 0, cells := 0, slots := 0, locals := 0 } : Room)) (fun a_ U => a_ = #[(.ref (A 1))] ∧ Z.Warmed39 U.vm ∧ U.heap = h0) (fun _ _ _ _ _ => True) (fun _ U o U' => ∃ v L, o = .returned v ∧ Q_lo1 Z A h0 n0 v U'.heap L ∧ FrameEnd U o U' L ({ frames := 0, cells := 0, slots := 0, locals := 0 } : Room).cells ({ frames := 0, cells := 0, slots := 0, locals := 0 } : Room).slots) := by
  refine MetFree.of_bodySF (plainFor_of_name pn_1) hisR ?_
  intro p e s m args below meth c s₁ Bd hml0 hP hK
  obtain ⟨rfl, hZ, hh⟩ := hP
  have hx := Bd.exec
  have hby := Bd.bytes
  have hlk : meth.locks = false := Bd.notSynchronized
  have hml : c.maxLocals = 1 := hml0
  have hown : s.vm.findClass "com/example/pelt/pelt/Axis" = some m.cls := findClass_of_methodNamed Bd.named
  have hnm := (name_of_methodNamed Bd.named Bd.method).1
  have X0 : Stand p l e ({ frames := 0, cells := 0, slots := 0, locals := 0 } : Room) s m #[(.ref (A 1))] below meth c s₁ [] 0 0 := Stand.of_body Bd
  have e0 : s₁.heap = h0 := by rw [← hh, Bd.state]; rfl
  have N0 := Fr.nil n0
  show OGets p e below (OLeaves s (Q_lo1 Z A h0 n0 ) ({ frames := 0, cells := 0, slots := 0, locals := 0 } : Room).cells ({ frames := 0, cells := 0, slots := 0, locals := 0 } : Room).slots) _
  refine OGets.enter (ef_lo1 m (A 1)) ?_
  show OGets p e below _ (s₁.setTop (mkF m 0 #[.val (.ref (A 1))] []))
  refine OGets.step (fun _ => XS.aloadN X0.here hx rfl (hb hby d3m15_0) rfl rfl) ?_
  show OGets p e below _ (s₁.setTop (mkF m 1 #[.val (.ref (A 1))] [(.ref (A 1))]))
  obtain ⟨T20, X20, e20, st20⟩ := getS2 X0 hx hZ hown (host := "") (Or.inl (hw _ (List.mem_of_getElem? (i := 13) rfl))) Via.refl e0 (show Sta Z h0 "com/example/pelt/pelt/Axis" "CHILD" "Lcom/example/pelt/pelt/Axis;" (.ref (A 3)) from hS 3 (by decide)) (g := (mkF m 1 #[.val (.ref (A 1))] [(.ref (A 1))])) rfl (hb hby d3m15_1)
  refine OGets.step st20 ?_
  show OGets p e below _ (T20.setTop (mkF m 4 #[.val (.ref (A 1))] [(.ref (A 3)), (.ref (A 1))]))
  refine OGets.step (fun _ => Jvm.RoadKit.acmp (g := (mkF m 4 #[.val (.ref (A 1))] [(.ref (A 3)), (.ref (A 1))])) X20 hx rfl rfl rfl (pc0 := 4) (pc' := 7) (same := false) rfl (hb hby d3m15_4) rfl (decide_eq_false fun q => absurd (hI 1 3 (by decide) (by decide) (Value.ref.inj q)) (by decide)) (by decide) (by decide)) ?_
  show OGets p e below _ (T20.setTop (mkF m 7 #[.val (.ref (A 1))] []))
  refine OGets.step (fun _ => XS.aloadN X20.here hx rfl (hb hby d3m15_7) rfl rfl) ?_
  show OGets p e below _ (T20.setTop (mkF m 8 #[.val (.ref (A 1))] [(.ref (A 1))]))
  obtain ⟨T21, X21, e21, st21⟩ := getS2 X20 hx hZ hown (host := "") (Or.inl (hw _ (List.mem_of_getElem? (i := 15) rfl))) Via.refl e20 (show Sta Z h0 "com/example/pelt/pelt/Axis" "ATTRIBUTE" "Lcom/example/pelt/pelt/Axis;" (.ref (A 2)) from hS 2 (by decide)) (g := (mkF m 8 #[.val (.ref (A 1))] [(.ref (A 1))])) rfl (hb hby d3m15_8)
  refine OGets.step st21 ?_
  show OGets p e below _ (T21.setTop (mkF m 11 #[.val (.ref (A 1))] [(.ref (A 2)), (.ref (A 1))]))
  refine OGets.step (fun _ => Jvm.RoadKit.acmp (g := (mkF m 11 #[.val (.ref (A 1))] [(.ref (A 2)), (.ref (A 1))])) X21 hx rfl rfl rfl (pc0 := 11) (pc' := 14) (same := false) rfl (hb hby d3m15_11) rfl (decide_eq_false fun q => absurd (hI 1 2 (by decide) (by decide) (Value.ref.inj q)) (by decide)) (by decide) (by decide)) ?_
  show OGets p e below _ (T21.setTop (mkF m 14 #[.val (.ref (A 1))] []))
  refine OGets.step (fun _ => XS.aloadN X21.here hx rfl (hb hby d3m15_14) rfl rfl) ?_
  show OGets p e below _ (T21.setTop (mkF m 15 #[.val (.ref (A 1))] [(.ref (A 1))]))
  obtain ⟨T22, X22, e22, st22⟩ := getS2 X21 hx hZ hown (host := "") (Or.inl (hw _ (List.mem_of_getElem? (i := 17) rfl))) Via.refl e21 (show Sta Z h0 "com/example/pelt/pelt/Axis" "NAMESPACE" "Lcom/example/pelt/pelt/Axis;" (.ref (A 8)) from hS 8 (by decide)) (g := (mkF m 15 #[.val (.ref (A 1))] [(.ref (A 1))])) rfl (hb hby d3m15_15)
  refine OGets.step st22 ?_
  show OGets p e below _ (T22.setTop (mkF m 18 #[.val (.ref (A 1))] [(.ref (A 8)), (.ref (A 1))]))
  refine OGets.step (fun _ => Jvm.RoadKit.acmp (g := (mkF m 18 #[.val (.ref (A 1))] [(.ref (A 8)), (.ref (A 1))])) X22 hx rfl rfl rfl (pc0 := 18) (pc' := 21) (same := false) rfl (hb hby d3m15_18) rfl (decide_eq_false fun q => absurd (hI 1 8 (by decide) (by decide) (Value.ref.inj q)) (by decide)) (by decide) (by decide)) ?_
  show OGets p e below _ (T22.setTop (mkF m 21 #[.val (.ref (A 1))] []))
  refine OGets.step (fun _ => XS.aloadN X22.here hx rfl (hb hby d3m15_21) rfl rfl) ?_
  show OGets p e below _ (T22.setTop (mkF m 22 #[.val (.ref (A 1))] [(.ref (A 1))]))
  obtain ⟨T23, X23, e23, st23⟩ := getS2 X22 hx hZ hown (host := "") (Or.inl (hw _ (List.mem_of_getElem? (i := 19) rfl))) Via.refl e22 (show Sta Z h0 "com/example/pelt/pelt/Axis" "PARENT" "Lcom/example/pelt/pelt/Axis;" (.ref (A 9)) from hS 9 (by decide)) (g := (mkF m 22 #[.val (.ref (A 1))] [(.ref (A 1))])) rfl (hb hby d3m15_22)
  refine OGets.step st23 ?_
  show OGets p e below _ (T23.setTop (mkF m 25 #[.val (.ref (A 1))] [(.ref (A 9)), (.ref (A 1))]))
  refine OGets.step (fun _ => Jvm.RoadKit.acmp (g := (mkF m 25 #[.val (.ref (A 1))] [(.ref (A 9)), (.ref (A 1))])) X23 hx rfl rfl rfl (pc0 := 25) (pc' := 28) (same := false) rfl (hb hby d3m15_25) rfl (decide_eq_false fun q => absurd (hI 1 9 (by decide) (by decide) (Value.ref.inj q)) (by decide)) (by decide) (by decide)) ?_
  show OGets p e below _ (T23.setTop (mkF m 28 #[.val (.ref (A 1))] []))
  refine OGets.step (fun _ => XS.aloadN X23.here hx rfl (hb hby d3m15_28) rfl rfl) ?_
  show OGets p e below _ (T23.setTop (mkF m 29 #[.val (.ref (A 1))] [(.ref (A 1))]))
  obtain ⟨T24, X24, e24, st24⟩ := getS2 X23 hx hZ hown (host := "") (Or.inl (hw _ (List.mem_of_getElem? (i := 21) rfl))) Via.refl e23 (show Sta Z h0 "com/example/pelt/pelt/Axis" "SELF" "Lcom/example/pelt/pelt/Axis;" (.ref (A 12)) from hS 12 (by decide)) (g := (mkF m 29 #[.val (.ref (A 1))] [(.ref (A 1))])) rfl (hb hby d3m15_29)
  refine OGets.step st24 ?_
  show OGets p e below _ (T24.setTop (mkF m 32 #[.val (.ref (A 1))] [(.ref (A 12)), (.ref (A 1))]))
  refine OGets.step (fun _ => Jvm.RoadKit.acmp (g := (mkF m 32 #[.val (.ref (A 1))] [(.ref (A 12)), (.ref (A 1))])) X24 hx rfl rfl rfl (pc0 := 32) (pc' := 35) (same := false) rfl (hb hby d3m15_32) rfl (decide_eq_false fun q => absurd (hI 1 12 (by decide) (by decide) (Value.ref.inj q)) (by decide)) (by decide) (by decide)) ?_
  show OGets p e below _ (T24.setTop (mkF m 35 #[.val (.ref (A 1))] []))
  refine OGets.step (fun _ => XS.iconst X24.here hx rfl (hb hby d3m15_35)) ?_
  show OGets p e below _ (T24.setTop (mkF m 36 #[.val (.ref (A 1))] [(.int (1 : Int32))]))
  refine OGets.step (fun _ => XS.goto X24.here hx rfl (pc0 := 36) (pc' := 40) rfl (hb hby d3m15_36) (by decide) (by decide)) ?_
  show OGets p e below _ (T24.setTop (mkF m 40 #[.val (.ref (A 1))] [(.int (1 : Int32))]))
  refine OGets.retN X24 hx hlk (t := .boolean) Bd.returns (by simp) (hb hby d3m15_40) (Nat.le_of_ble_eq_true rfl) (Nat.le_of_ble_eq_true rfl) ?_
  exact ⟨rfl, rfl, e24⟩
theorem d3m6_7 : decode prog_3_method_6_code 7 = .ok (.aload_n 0, 1) := by decide +kernel
theorem d3m6_8 : decode prog_3_method_6_code 8 = .ok (.getstatic 7, 3) := by decide +kernel
theorem d3m6_11 : decode prog_3_method_6_code 11 = .ok (.if_acmp .eq 17, 3) := by decide +kernel
theorem ef_rv1 (m : MethodId) (x0 : Addr) : entryFrame m #[(.ref x0)] 1 = mkF m 0 #[.val (.ref x0)] [] := by first | (simp [entryFrame, mkF, argsToLocals, Value.category]; done) | rfl
def Q_rv1 (Z : State) (A : Nat → Addr) (h0 : Heap) (n0 : Nat) (v : Option Value) (h : Heap) (L : List Loc) : Prop := v = some (.int (1 : Int32)) ∧ L = [] ∧ h = h0
set_option maxRecDepth 65536 in
set_option maxHeartbeats 40000000 in
theorem rm_rv1 (l : Launch) (Z : State) (a0 : Array Value) (hw : ∀ d ∈ tables_1, d.before a0 Z = true) (ws : List Jvm.Cond) (A : Nat → Addr) (h0 : Heap) (n0 : Nat) (Z0 : n0 ≤ h0.size) (hS : ∀ i, i < 13 → Sta Z h0 "com/example/pelt/pelt/Axis" (nmOf i) "Lcom/example/pelt/pelt/Axis;" (.ref (A i))) (hI : ∀ i j, i < 13 → j < 13 → A i = A j → i = j) :
    MetFree l (⟨"com/example/pelt/pelt/Axis", "isReverse", "()Z"⟩ : MethodName) (head1 (Jvm.Cond.code (⟨"com/example/pelt/pelt/Axis", "isReverse", "()Z"⟩ : MethodName) prog_3_method_6_code 1 (some .boolean) :: ws) ({ frames := 0, cells := 0, slots := 0, locals := 0 } : Room)) (fun a_ U => a_ = #[(.ref (A 1))] ∧ Z.Warmed39 U.vm ∧ U.heap = h0) (fun _ _ _ _ _ => True) (fun _ U o U' => ∃ v L, o = .returned v ∧ Q_rv1 Z A h0 n0 v U'.heap L ∧ FrameEnd U o U' L ({ frames := 0, cells := 0, slots := 0, locals := 0 } : Room).cells ({ frames := 0, cells := 0, slots := 0, locals := 0 } : Room).slots) := by
  refine MetFree.of_bodySF (plainFor_of_name pn_1) hisR ?_
  intro p e s m args below meth c s₁ Bd hml0 hP hK
  obtain ⟨rfl, hZ, hh⟩ := hP
  have hx := Bd.exec
  have hby := Bd.bytes
  have hlk : meth.locks = false := Bd.notSynchronized
  have hml : c.maxLocals = 1 := hml0
  have hown : s.vm.findClass "com/example/pelt/pelt/Axis" = some m.cls := findClass_of_methodNamed Bd.named
  have hnm := (name_of_methodNamed Bd.named Bd.method).1
  have X0 : Stand p l e ({ frames := 0, cells := 0, slots := 0, locals := 0 } : Room) s m #[(.ref (A 1))] below meth c s₁ [] 0 0 := Stand.of_body Bd
  have e0 : s₁.heap = h0 := by rw [← hh, Bd.state]; rfl
  have N0 := Fr.nil n0
  show OGets p e below (OLeaves s (Q_rv1 Z A h0 n0 ) ({ frames := 0, cells := 0, slots := 0, locals := 0 } : Room).cells ({ frames := 0, cells := 0, slots := 0, locals := 0 } : Room).slots) _
  refine OGets.enter (ef_rv1 m (A 1)) ?_
  show OGets p e below _ (s₁.setTop (mkF m 0 #[.val (.ref (A 1))] []))
  refine OGets.step (fun _ => XS.aloadN X0.here hx rfl (hb hby d3m6_0) rfl rfl) ?_
  show OGets p e below _ (s₁.setTop (mkF m 1 #[.val (.ref (A 1))] [(.ref (A 1))]))
  obtain ⟨T25, X25, e25, st25⟩ := getS2 X0 hx hZ hown (host := "") (Or.inl (hw _ (List.mem_of_getElem? (i := 28) rfl))) Via.refl e0 (show Sta Z h0 "com/example/pelt/pelt/Axis" "ANCESTOR" "Lcom/example/pelt/pelt/Axis;" (.ref (A 0)) from hS 0 (by decide)) (g := (mkF m 1 #[.val (.ref (A 1))] [(.ref (A 1))])) rfl (hb hby d3m6_1)
  refine OGets.step st25 ?_
  show OGets p e below _ (T25.setTop (mkF m 4 #[.val (.ref (A 1))] [(.ref (A 0)), (.ref (A 1))]))
  refine OGets.step (fun _ => Jvm.RoadKit.acmp (g := (mkF m 4 #[.val (.ref (A 1))] [(.ref (A 0)), (.ref (A 1))])) X25 hx rfl rfl rfl (pc0 := 4) (pc' := 7) (same := false) rfl (hb hby d3m6_4) rfl (decide_eq_false fun q => absurd (hI 1 0 (by decide) (by decide) (Value.ref.inj q)) (by decide)) (by decide) (by decide)) ?_
  show OGets p e below _ (T25.setTop (mkF m 7 #[.val (.ref (A 1))] []))
  refine OGets.step (fun _ => XS.aloadN X25.here hx rfl (hb hby d3m6_7) rfl rfl) ?_
  show OGets p e below _ (T25.setTop (mkF m 8 #[.val (.ref (A 1))] [(.ref (A 1))]))
  obtain ⟨T26, X26, e26, st26⟩ := getS2 X25 hx hZ hown (host := "") (Or.inl (hw _ (List.mem_of_getElem? (i := 35) rfl))) Via.refl e25 (show Sta Z h0 "com/example/pelt/pelt/Axis" "ANCESTOR_OR_SELF" "Lcom/example/pelt/pelt/Axis;" (.ref (A 1)) from hS 1 (by decide)) (g := (mkF m 8 #[.val (.ref (A 1))] [(.ref (A 1))])) rfl (hb hby d3m6_8)
  refine OGets.step st26 ?_
  show OGets p e below _ (T26.setTop (mkF m 11 #[.val (.ref (A 1))] [(.ref (A 1)), (.ref (A 1))]))
  refine OGets.step (fun _ => Jvm.RoadKit.acmp (g := (mkF m 11 #[.val (.ref (A 1))] [(.ref (A 1)), (.ref (A 1))])) X26 hx rfl rfl rfl (pc0 := 11) (pc' := 28) (same := true) rfl (hb hby d3m6_11) rfl (decide_eq_true rfl) (by decide) (by decide)) ?_
  show OGets p e below _ (T26.setTop (mkF m 28 #[.val (.ref (A 1))] []))
  refine OGets.step (fun _ => XS.iconst X26.here hx rfl (hb hby d3m6_28)) ?_
  show OGets p e below _ (T26.setTop (mkF m 29 #[.val (.ref (A 1))] [(.int (1 : Int32))]))
  refine OGets.step (fun _ => XS.goto X26.here hx rfl (pc0 := 29) (pc' := 33) rfl (hb hby d3m6_29) (by decide) (by decide)) ?_
  show OGets p e below _ (T26.setTop (mkF m 33 #[.val (.ref (A 1))] [(.int (1 : Int32))]))
  refine OGets.retN X26 hx hlk (t := .boolean) Bd.returns (by simp) (hb hby d3m6_33) (Nat.le_of_ble_eq_true rfl) (Nat.le_of_ble_eq_true rfl) ?_
  exact ⟨rfl, rfl, e26⟩
theorem dm3_4 : decode method_3_code 4 = .ok (.iload_n 0, 1) := by decide +kernel
theorem dm3_5 : decode method_3_code 5 = .ok (.iconst 1, 1) := by decide +kernel
theorem dm3_6 : decode method_3_code 6 = .ok (.if_icmp .ne 7, 3) := by decide +kernel
theorem ef_ex1 (m : MethodId) (x0 : Int32) : entryFrame m #[(.int x0)] 5 = mkF m 0 #[.val (.int x0), .unset, .unset, .unset, .unset] [] := by first | (simp [entryFrame, mkF, argsToLocals, Value.category]; done) | rfl
def Q_ex1 (Z : State)  (h0 : Heap) (n0 : Nat) (v : Option Value) (h : Heap) (L : List Loc) : Prop := v = some (.int (1 : Int32)) ∧ L = [] ∧ h = h0
set_option maxRecDepth 65536 in
set_option maxHeartbeats 40000000 in
theorem rm_ex1 (l : Launch) (Z : State) (a0 : Array Value) (hw : ∀ d ∈ tables_1, d.before a0 Z = true) (ws : List Jvm.Cond)  (h0 : Heap) (n0 : Nat) (Z0 : n0 ≤ h0.size) :
    MetFree l (⟨"com/example/pelt/pelt/AxisListsOverlapPinLaw", "expected", "(I)Z"⟩ : MethodName) (head1 (Jvm.Cond.code (⟨"com/example/pelt/pelt/AxisListsOverlapPinLaw", "expected", "(I)Z"⟩ : MethodName) method_3_code 5 (some .boolean) :: ws) ({ frames := 0, cells := 0, slots := 0, locals := 0 } : Room)) (fun a_ U => a_ = #[(.int (1 : Int32))] ∧ Z.Warmed39 U.vm ∧ U.heap = h0) (fun _ _ _ _ _ => True) (fun _ U o U' => ∃ v L, o = .returned v ∧ Q_ex1 Z  h0 n0 v U'.heap L ∧ FrameEnd U o U' L ({ frames := 0, cells := 0, slots := 0, locals := 0 } : Room).cells ({ frames := 0, cells := 0, slots := 0, locals := 0 } : Room).slots) := by
  refine MetFree.of_bodySF (plainFor_of_name pn_0) hisR ?_
  intro p e s m args below meth c s₁ Bd hml0 hP hK
  obtain ⟨rfl, hZ, hh⟩ := hP
  have hx := Bd.exec
  have hby := Bd.bytes
  have hlk : meth.locks = false := Bd.notSynchronized
  have hml : c.maxLocals = 5 := hml0
  have hown : s.vm.findClass "com/example/pelt/pelt/AxisListsOverlapPinLaw" = some m.cls := findClass_of_methodNamed Bd.named
  have hnm := (name_of_methodNamed Bd.named Bd.method).1
  have X0 : Stand p l e ({ frames := 0, cells := 0, slots := 0, locals := 0 } : Room) s m #[(.int (1 : Int32))] below meth c s₁ [] 0 0 := Stand.of_body Bd
  have e0 : s₁.heap = h0 := by rw [← hh, Bd.state]; rfl
  have N0 := Fr.nil n0
  show OGets p e below (OLeaves s (Q_ex1 Z  h0 n0 ) ({ frames := 0, cells := 0, slots := 0, locals := 0 } : Room).cells ({ frames := 0, cells := 0, slots := 0, locals := 0 } : Room).slots) _
  refine OGets.enter (ef_ex1 m (1 : Int32)) ?_
  show OGets p e below _ (s₁.setTop (mkF m 0 #[.val (.int (1 : Int32)), .unset, .unset, .unset, .unset] []))
  refine OGets.step (fun _ => XS.iloadN X0.here hx rfl (hb hby dm3_0) rfl) ?_
  show OGets p e below _ (s₁.setTop (mkF m 1 #[.val (.int (1 : Int32)), .unset, .unset, .unset, .unset] [(.int (1 : Int32))]))
  refine OGets.step (fun _ => XS.ifNo X0.here hx rfl (hb hby dm3_1) rfl ((if0 _ _).trans (feq (by decide : ¬ ((1 : Int32) = (0 : Int32)))).1)) ?_
  show OGets p e below _ (s₁.setTop (mkF m 4 #[.val (.int (1 : Int32)), .unset, .unset, .unset, .unset] []))
  refine OGets.step (fun _ => XS.iloadN X0.here hx rfl (hb hby dm3_4) rfl) ?_
  show OGets p e below _ (s₁.setTop (mkF m 5 #[.val (.int (1 : Int32)), .unset, .unset, .unset, .unset] [(.int (1 : Int32))]))
  refine OGets.step (fun _ => XS.iconst X0.here hx rfl (hb hby dm3_5)) ?_
  show OGets p e below _ (s₁.setTop (mkF m 6 #[.val (.int (1 : Int32)), .unset, .unset, .unset, .unset] [(.int (1 : Int32)), (.int (1 : Int32))]))
  refine OGets.step (fun _ => XS.icmpNo X0.here hx rfl (hb hby dm3_6) rfl (teq (by decide : (1 : Int32) = (1 : Int32))).2) ?_
  show OGets p e below _ (s₁.setTop (mkF m 9 #[.val (.int (1 : Int32)), .unset, .unset, .unset, .unset] []))
  refine OGets.step (fun _ => XS.iconst X0.here hx rfl (hb hby dm3_9)) ?_
  show OGets p e below _ (s₁.setTop (mkF m 10 #[.val (.int (1 : Int32)), .unset, .unset, .unset, .unset] [(.int (1 : Int32))]))
  refine OGets.step (fun _ => XS.goto X0.here hx rfl (pc0 := 10) (pc' := 14) rfl (hb hby dm3_10) (by decide) (by decide)) ?_
  show OGets p e below _ (s₁.setTop (mkF m 14 #[.val (.int (1 : Int32)), .unset, .unset, .unset, .unset] [(.int (1 : Int32))]))
  refine OGets.step (fun _ => XS.istoreN X0.here hx rfl (hb hby dm3_14) rfl (l' := #[.val (.int (1 : Int32)), .val (.int (1 : Int32)), .unset, .unset, .unset]) rfl) ?_
  show OGets p e below _ (s₁.setTop (mkF m 15 #[.val (.int (1 : Int32)), .val (.int (1 : Int32)), .unset, .unset, .unset] []))
  refine OGets.step (fun _ => XS.iloadN X0.here hx rfl (hb hby dm3_15) rfl) ?_
  show OGets p e below _ (s₁.setTop (mkF m 16 #[.val (.int (1 : Int32)), .val (.int (1 : Int32)), .unset, .unset, .unset] [(.int (1 : Int32))]))
  refine OGets.step (fun _ => XS.iconst X0.here hx rfl (hb hby dm3_16)) ?_
  show OGets p e below _ (s₁.setTop (mkF m 17 #[.val (.int (1 : Int32)), .val (.int (1 : Int32)), .unset, .unset, .unset] [(.int (4 : Int32)), (.int (1 : Int32))]))
  refine OGets.step (fun _ => XS.icmpNo X0.here hx rfl (hb hby dm3_17) rfl (feq (by decide : ¬ ((1 : Int32) = (4 : Int32)))).1) ?_
  show OGets p e below _ (s₁.setTop (mkF m 20 #[.val (.int (1 : Int32)), .val (.int (1 : Int32)), .unset, .unset, .unset] []))
  refine OGets.step (fun _ => XS.iloadN X0.here hx rfl (hb hby dm3_20) rfl) ?_
  show OGets p e below _ (s₁.setTop (mkF m 21 #[.val (.int (1 : Int32)), .val (.int (1 : Int32)), .unset, .unset, .unset] [(.int (1 : Int32))]))
  refine OGets.step (fun _ => XS.iconst X0.here hx rfl (hb hby dm3_21)) ?_
  show OGets p e below _ (s₁.setTop (mkF m 22 #[.val (.int (1 : Int32)), .val (.int (1 : Int32)), .unset, .unset, .unset] [(.int (5 : Int32)), (.int (1 : Int32))]))
  refine OGets.step (fun _ => XS.icmpYes X0.here hx rfl (pc0 := 22) (pc' := 29) rfl (hb hby dm3_22) rfl (feq (by decide : ¬ ((1 : Int32) = (5 : Int32)))).2 (by decide) (by decide)) ?_
  show OGets p e below _ (s₁.setTop (mkF m 29 #[.val (.int (1 : Int32)), .val (.int (1 : Int32)), .unset, .unset, .unset] []))
  refine OGets.step (fun _ => XS.iconst X0.here hx rfl (hb hby dm3_29)) ?_
  show OGets p e below _ (s₁.setTop (mkF m 30 #[.val (.int (1 : Int32)), .val (.int (1 : Int32)), .unset, .unset, .unset] [(.int (0 : Int32))]))
  refine OGets.step (fun _ => XS.istoreN X0.here hx rfl (hb hby dm3_30) rfl (l' := #[.val (.int (1 : Int32)), .val (.int (1 : Int32)), .val (.int (0 : Int32)), .unset, .unset]) rfl) ?_
  show OGets p e below _ (s₁.setTop (mkF m 31 #[.val (.int (1 : Int32)), .val (.int (1 : Int32)), .val (.int (0 : Int32)), .unset, .unset] []))
  refine OGets.step (fun _ => XS.iloadN X0.here hx rfl (hb hby dm3_31) rfl) ?_
  show OGets p e below _ (s₁.setTop (mkF m 32 #[.val (.int (1 : Int32)), .val (.int (1 : Int32)), .val (.int (0 : Int32)), .unset, .unset] [(.int (1 : Int32))]))
  refine OGets.step (fun _ => XS.bipush X0.here hx rfl (hb hby dm3_32)) ?_
  show OGets p e below _ (s₁.setTop (mkF m 34 #[.val (.int (1 : Int32)), .val (.int (1 : Int32)), .val (.int (0 : Int32)), .unset, .unset] [(.int (6 : Int32)), (.int (1 : Int32))]))
  refine OGets.step (fun _ => XS.icmpNo X0.here hx rfl (hb hby dm3_34) rfl (feq (by decide : ¬ ((1 : Int32) = (6 : Int32)))).1) ?_
  show OGets p e below _ (s₁.setTop (mkF m 37 #[.val (.int (1 : Int32)), .val (.int (1 : Int32)), .val (.int (0 : Int32)), .unset, .unset] []))
  refine OGets.step (fun _ => XS.iloadN X0.here hx rfl (hb hby dm3_37) rfl) ?_
  show OGets p e below _ (s₁.setTop (mkF m 38 #[.val (.int (1 : Int32)), .val (.int (1 : Int32)), .val (.int (0 : Int32)), .unset, .unset] [(.int (1 : Int32))]))
  refine OGets.step (fun _ => XS.bipush X0.here hx rfl (hb hby dm3_38)) ?_
  show OGets p e below _ (s₁.setTop (mkF m 40 #[.val (.int (1 : Int32)), .val (.int (1 : Int32)), .val (.int (0 : Int32)), .unset, .unset] [(.int (7 : Int32)), (.int (1 : Int32))]))
  refine OGets.step (fun _ => XS.icmpYes X0.here hx rfl (pc0 := 40) (pc' := 47) rfl (hb hby dm3_40) rfl (feq (by decide : ¬ ((1 : Int32) = (7 : Int32)))).2 (by decide) (by decide)) ?_
  show OGets p e below _ (s₁.setTop (mkF m 47 #[.val (.int (1 : Int32)), .val (.int (1 : Int32)), .val (.int (0 : Int32)), .unset, .unset] []))
  refine OGets.step (fun _ => XS.iconst X0.here hx rfl (hb hby dm3_47)) ?_
  show OGets p e below _ (s₁.setTop (mkF m 48 #[.val (.int (1 : Int32)), .val (.int (1 : Int32)), .val (.int (0 : Int32)), .unset, .unset] [(.int (0 : Int32))]))
  refine OGets.step (fun _ => XS.istoreN X0.here hx rfl (hb hby dm3_48) rfl (l' := #[.val (.int (1 : Int32)), .val (.int (1 : Int32)), .val (.int (0 : Int32)), .val (.int (0 : Int32)), .unset]) rfl) ?_
  show OGets p e below _ (s₁.setTop (mkF m 49 #[.val (.int (1 : Int32)), .val (.int (1 : Int32)), .val (.int (0 : Int32)), .val (.int (0 : Int32)), .unset] []))
  refine OGets.step (fun _ => XS.iloadN X0.here hx rfl (hb hby dm3_49) rfl) ?_
  show OGets p e below _ (s₁.setTop (mkF m 50 #[.val (.int (1 : Int32)), .val (.int (1 : Int32)), .val (.int (0 : Int32)), .val (.int (0 : Int32)), .unset] [(.int (1 : Int32))]))
  refine OGets.step (fun _ => XS.bipush X0.here hx rfl (hb hby dm3_50)) ?_
  show OGets p e below _ (s₁.setTop (mkF m 52 #[.val (.int (1 : Int32)), .val (.int (1 : Int32)), .val (.int (0 : Int32)), .val (.int (0 : Int32)), .unset] [(.int (10 : Int32)), (.int (1 : Int32))]))
  refine OGets.step (fun _ => XS.icmpNo X0.here hx rfl (hb hby dm3_52) rfl (feq (by decide : ¬ ((1 : Int32) = (10 : Int32)))).1) ?_
  show OGets p e below _ (s₁.setTop (mkF m 55 #[.val (.int (1 : Int32)), .val (.int (1 : Int32)), .val (.int (0 : Int32)), .val (.int (0 : Int32)), .unset] []))
  refine OGets.step (fun _ => XS.iloadN X0.here hx rfl (hb hby dm3_55) rfl) ?_
  show OGets p e below _ (s₁.setTop (mkF m 56 #[.val (.int (1 : Int32)), .val (.int (1 : Int32)), .val (.int (0 : Int32)), .val (.int (0 : Int32)), .unset] [(.int (1 : Int32))]))
  refine OGets.step (fun _ => XS.bipush X0.here hx rfl (hb hby dm3_56)) ?_
  show OGets p e below _ (s₁.setTop (mkF m 58 #[.val (.int (1 : Int32)), .val (.int (1 : Int32)), .val (.int (0 : Int32)), .val (.int (0 : Int32)), .unset] [(.int (11 : Int32)), (.int (1 : Int32))]))
  refine OGets.step (fun _ => XS.icmpYes X0.here hx rfl (pc0 := 58) (pc' := 65) rfl (hb hby dm3_58) rfl (feq (by decide : ¬ ((1 : Int32) = (11 : Int32)))).2 (by decide) (by decide)) ?_
  show OGets p e below _ (s₁.setTop (mkF m 65 #[.val (.int (1 : Int32)), .val (.int (1 : Int32)), .val (.int (0 : Int32)), .val (.int (0 : Int32)), .unset] []))
  refine OGets.step (fun _ => XS.iconst X0.here hx rfl (hb hby dm3_65)) ?_
  show OGets p e below _ (s₁.setTop (mkF m 66 #[.val (.int (1 : Int32)), .val (.int (1 : Int32)), .val (.int (0 : Int32)), .val (.int (0 : Int32)), .unset] [(.int (0 : Int32))]))
  refine OGets.step (fun _ => XS.istore X0.here hx rfl (hb hby dm3_66) rfl (l' := #[.val (.int (1 : Int32)), .val (.int (1 : Int32)), .val (.int (0 : Int32)), .val (.int (0 : Int32)), .val (.int (0 : Int32))]) rfl) ?_
  show OGets p e below _ (s₁.setTop (mkF m 68 #[.val (.int (1 : Int32)), .val (.int (1 : Int32)), .val (.int (0 : Int32)), .val (.int (0 : Int32)), .val (.int (0 : Int32))] []))
  refine OGets.step (fun _ => XS.iloadN X0.here hx rfl (hb hby dm3_68) rfl) ?_
  show OGets p e below _ (s₁.setTop (mkF m 69 #[.val (.int (1 : Int32)), .val (.int (1 : Int32)), .val (.int (0 : Int32)), .val (.int (0 : Int32)), .val (.int (0 : Int32))] [(.int (1 : Int32))]))
  refine OGets.step (fun _ => XS.ifYes X0.here hx rfl (pc0 := 69) (pc' := 85) rfl (hb hby dm3_69) rfl ((if0 _ _).trans (feq (by decide : ¬ ((1 : Int32) = (0 : Int32)))).2) (by decide) (by decide)) ?_
  show OGets p e below _ (s₁.setTop (mkF m 85 #[.val (.int (1 : Int32)), .val (.int (1 : Int32)), .val (.int (0 : Int32)), .val (.int (0 : Int32)), .val (.int (0 : Int32))] []))
  refine OGets.step (fun _ => XS.iconst X0.here hx rfl (hb hby dm3_85)) ?_
  show OGets p e below _ (s₁.setTop (mkF m 86 #[.val (.int (1 : Int32)), .val (.int (1 : Int32)), .val (.int (0 : Int32)), .val (.int (0 : Int32)), .val (.int (0 : Int32))] [(.int (1 : Int32))]))
  refine OGets.step (fun _ => XS.goto X0.here hx rfl (pc0 := 86) (pc' := 90) rfl (hb hby dm3_86) (by decide) (by decide)) ?_
  show OGets p e below _ (s₁.setTop (mkF m 90 #[.val (.int (1 : Int32)), .val (.int (1 : Int32)), .val (.int (0 : Int32)), .val (.int (0 : Int32)), .val (.int (0 : Int32))] [(.int (1 : Int32))]))
  refine OGets.retN X0 hx hlk (t := .boolean) Bd.returns (by simp) (hb hby dm3_90) (Nat.le_of_ble_eq_true rfl) (Nat.le_of_ble_eq_true rfl) ?_
  exact ⟨rfl, rfl, e0⟩
theorem dm2_17 : decode method_2_code 17 = .ok (.iload_n 0, 1) := by decide +kernel
theorem dm2_18 : decode method_2_code 18 = .ok (.iconst 2, 1) := by decide +kernel
theorem dm2_19 : decode method_2_code 19 = .ok (.if_icmp .ne 7, 3) := by decide +kernel
theorem dm2_22 : decode method_2_code 22 = .ok (.getstatic 16, 3) := by decide +kernel
theorem dm2_25 : decode method_2_code 25 = .ok (.areturn, 1) := by decide +kernel
theorem ef_pk2 (m : MethodId) (x0 : Int32) : entryFrame m #[(.int x0)] 1 = mkF m 0 #[.val (.int x0)] [] := by first | (simp [entryFrame, mkF, argsToLocals, Value.category]; done) | rfl
def Q_pk2 (Z : State) (A : Nat → Addr) (h0 : Heap) (n0 : Nat) (v : Option Value) (h : Heap) (L : List Loc) : Prop := v = some (.ref (A 2)) ∧ L = [] ∧ h = h0
set_option maxRecDepth 65536 in
set_option maxHeartbeats 40000000 in
theorem rm_pk2 (l : Launch) (Z : State) (a0 : Array Value) (hw : ∀ d ∈ tables_1, d.before a0 Z = true) (ws : List Jvm.Cond) (A : Nat → Addr) (h0 : Heap) (n0 : Nat) (Z0 : n0 ≤ h0.size) (hS : ∀ i, i < 13 → Sta Z h0 "com/example/pelt/pelt/Axis" (nmOf i) "Lcom/example/pelt/pelt/Axis;" (.ref (A i))) (hI : ∀ i j, i < 13 → j < 13 → A i = A j → i = j) :
    MetFree l (⟨"com/example/pelt/pelt/AxisListsOverlapPinLaw", "pick", "(I)Lcom/example/pelt/pelt/Axis;"⟩ : MethodName) (head1 (Jvm.Cond.code (⟨"com/example/pelt/pelt/AxisListsOverlapPinLaw", "pick", "(I)Lcom/example/pelt/pelt/Axis;"⟩ : MethodName) method_2_code 1 (some (.object "com/example/pelt/pelt/Axis")) :: ws) ({ frames := 0, cells := 0, slots := 0, locals := 0 } : Room)) (fun a_ U => a_ = #[(.int (2 : Int32))] ∧ Z.Warmed39 U.vm ∧ U.heap = h0) (fun _ _ _ _ _ => True) (fun _ U o U' => ∃ v L, o = .returned v ∧ Q_pk2 Z A h0 n0 v U'.heap L ∧ FrameEnd U o U' L ({ frames := 0, cells := 0, slots := 0, locals := 0 } : Room).cells ({ frames := 0, cells := 0, slots := 0, locals := 0 } : Room).slots) := by
  refine MetFree.of_bodySF (plainFor_of_name pn_0) hisR ?_
  intro p e s m args below meth c s₁ Bd hml0 hP hK
  obtain ⟨rfl, hZ, hh⟩ := hP
  have hx := Bd.exec
  have hby := Bd.bytes
  have hlk : meth.locks = false := Bd.notSynchronized
  have hml : c.maxLocals = 1 := hml0
  have hown : s.vm.findClass "com/example/pelt/pelt/AxisListsOverlapPinLaw" = some m.cls := findClass_of_methodNamed Bd.named
  have hnm := (name_of_methodNamed Bd.named Bd.method).1
  have X0 : Stand p l e ({ frames := 0, cells := 0, slots := 0, locals := 0 } : Room) s m #[(.int (2 : Int32))] below meth c s₁ [] 0 0 := Stand.of_body Bd
  have e0 : s₁.heap = h0 := by rw [← hh, Bd.state]; rfl
  have N0 := Fr.nil n0
  show OGets p e below (OLeaves s (Q_pk2 Z A h0 n0 ) ({ frames := 0, cells := 0, slots := 0, locals := 0 } : Room).cells ({ frames := 0, cells := 0, slots := 0, locals := 0 } : Room).slots) _
  refine OGets.enter (ef_pk2 m (2 : Int32)) ?_
  show OGets p e below _ (s₁.setTop (mkF m 0 #[.val (.int (2 : Int32))] []))
  refine OGets.step (fun _ => XS.iloadN X0.here hx rfl (hb hby dm2_0) rfl) ?_
  show OGets p e below _ (s₁.setTop (mkF m 1 #[.val (.int (2 : Int32))] [(.int (2 : Int32))]))
  refine OGets.step (fun _ => XS.ifYes X0.here hx rfl (pc0 := 1) (pc' := 8) rfl (hb hby dm2_1) rfl ((if0 _ _).trans (feq (by decide : ¬ ((2 : Int32) = (0 : Int32)))).2) (by decide) (by decide)) ?_
  show OGets p e below _ (s₁.setTop (mkF m 8 #[.val (.int (2 : Int32))] []))
  refine OGets.step (fun _ => XS.iloadN X0.here hx rfl (hb hby dm2_8) rfl) ?_
  show OGets p e below _ (s₁.setTop (mkF m 9 #[.val (.int (2 : Int32))] [(.int (2 : Int32))]))
  refine OGets.step (fun _ => XS.iconst X0.here hx rfl (hb hby dm2_9)) ?_
  show OGets p e below _ (s₁.setTop (mkF m 10 #[.val (.int (2 : Int32))] [(.int (1 : Int32)), (.int (2 : Int32))]))
  refine OGets.step (fun _ => XS.icmpYes X0.here hx rfl (pc0 := 10) (pc' := 17) rfl (hb hby dm2_10) rfl (feq (by decide : ¬ ((2 : Int32) = (1 : Int32)))).2 (by decide) (by decide)) ?_
  show OGets p e below _ (s₁.setTop (mkF m 17 #[.val (.int (2 : Int32))] []))
  refine OGets.step (fun _ => XS.iloadN X0.here hx rfl (hb hby dm2_17) rfl) ?_
  show OGets p e below _ (s₁.setTop (mkF m 18 #[.val (.int (2 : Int32))] [(.int (2 : Int32))]))
  refine OGets.step (fun _ => XS.iconst X0.here hx rfl (hb hby dm2_18)) ?_
  show OGets p e below _ (s₁.setTop (mkF m 19 #[.val (.int (2 : Int32))] [(.int (2 : Int32)), (.int (2 : Int32))]))
  refine OGets.step (fun _ => XS.icmpNo X0.here hx rfl (hb hby dm2_19) rfl (teq (by decide : (2 : Int32) = (2 : Int32))).2) ?_
  show OGets p e below _ (s₁.setTop (mkF m 22 #[.val (.int (2 : Int32))] []))
  obtain ⟨T39, X39, e39, st39⟩ := getS2 X0 hx hZ hown (host := "") (Or.inl (hw _ (List.mem_of_getElem? (i := 56) rfl))) Via.refl e0 (show Sta Z h0 "com/example/pelt/pelt/Axis" "ATTRIBUTE" "Lcom/example/pelt/pelt/Axis;" (.ref (A 2)) from hS 2 (by decide)) (g := (mkF m 22 #[.val (.int (2 : Int32))] [])) rfl (hb hby dm2_22)
  refine OGets.step st39 ?_
  show OGets p e below _ (T39.setTop (mkF m 25 #[.val (.int (2 : Int32))] [(.ref (A 2))]))
  refine OGets.retA X39 hx hlk (t := (.object "com/example/pelt/pelt/Axis")) Bd.returns rfl rfl rfl (hb hby dm2_25) (Nat.le_of_ble_eq_true rfl) (Nat.le_of_ble_eq_true rfl) ?_
  exact ⟨rfl, rfl, e39⟩
theorem d3m15_39 : decode prog_3_method_15_code 39 = .ok (.iconst 0, 1) := by decide +kernel
theorem ef_lo2 (m : MethodId) (x0 : Addr) : entryFrame m #[(.ref x0)] 1 = mkF m 0 #[.val (.ref x0)] [] := by first | (simp [entryFrame, mkF, argsToLocals, Value.category]; done) | rfl
def Q_lo2 (Z : State) (A : Nat → Addr) (h0 : Heap) (n0 : Nat) (v : Option Value) (h : Heap) (L : List Loc) : Prop := v = some (.int (0 : Int32)) ∧ L = [] ∧ h = h0
set_option maxRecDepth 65536 in
set_option maxHeartbeats 40000000 in
theorem rm_lo2 (l : Launch) (Z : State) (a0 : Array Value) (hw : ∀ d ∈ tables_1, d.before a0 Z = true) (ws : List Jvm.Cond) (A : Nat → Addr) (h0 : Heap) (n0 : Nat) (Z0 : n0 ≤ h0.size) (hS : ∀ i, i < 13 → Sta Z h0 "com/example/pelt/pelt/Axis" (nmOf i) "Lcom/example/pelt/pelt/Axis;" (.ref (A i))) (hI : ∀ i j, i < 13 → j < 13 → A i = A j → i = j) :
    MetFree l (⟨"com/example/pelt/pelt/Axis", "listsOverlap", "()Z"⟩ : MethodName) (head1 (Jvm.Cond.code (⟨"com/example/pelt/pelt/Axis", "listsOverlap", "()Z"⟩ : MethodName) prog_3_method_15_code 1 (some .boolean) :: ws) ({ frames := 0, cells := 0, slots := 0, locals := 0 } : Room)) (fun a_ U => a_ = #[(.ref (A 2))] ∧ Z.Warmed39 U.vm ∧ U.heap = h0) (fun _ _ _ _ _ => True) (fun _ U o U' => ∃ v L, o = .returned v ∧ Q_lo2 Z A h0 n0 v U'.heap L ∧ FrameEnd U o U' L ({ frames := 0, cells := 0, slots := 0, locals := 0 } : Room).cells ({ frames := 0, cells := 0, slots := 0, locals := 0 } : Room).slots) := by
  refine MetFree.of_bodySF (plainFor_of_name pn_1) hisR ?_
  intro p e s m args below meth c s₁ Bd hml0 hP hK
  obtain ⟨rfl, hZ, hh⟩ := hP
  have hx := Bd.exec
  have hby := Bd.bytes
  have hlk : meth.locks = false := Bd.notSynchronized
  have hml : c.maxLocals = 1 := hml0
  have hown : s.vm.findClass "com/example/pelt/pelt/Axis" = some m.cls := findClass_of_methodNamed Bd.named
  have hnm := (name_of_methodNamed Bd.named Bd.method).1
  have X0 : Stand p l e ({ frames := 0, cells := 0, slots := 0, locals := 0 } : Room) s m #[(.ref (A 2))] below meth c s₁ [] 0 0 := Stand.of_body Bd
  have e0 : s₁.heap = h0 := by rw [← hh, Bd.state]; rfl
  have N0 := Fr.nil n0
  show OGets p e below (OLeaves s (Q_lo2 Z A h0 n0 ) ({ frames := 0, cells := 0, slots := 0, locals := 0 } : Room).cells ({ frames := 0, cells := 0, slots := 0, locals := 0 } : Room).slots) _
  refine OGets.enter (ef_lo2 m (A 2)) ?_
  show OGets p e below _ (s₁.setTop (mkF m 0 #[.val (.ref (A 2))] []))
  refine OGets.step (fun _ => XS.aloadN X0.here hx rfl (hb hby d3m15_0) rfl rfl) ?_
  show OGets p e below _ (s₁.setTop (mkF m 1 #[.val (.ref (A 2))] [(.ref (A 2))]))
  obtain ⟨T40, X40, e40, st40⟩ := getS2 X0 hx hZ hown (host := "") (Or.inl (hw _ (List.mem_of_getElem? (i := 13) rfl))) Via.refl e0 (show Sta Z h0 "com/example/pelt/pelt/Axis" "CHILD" "Lcom/example/pelt/pelt/Axis;" (.ref (A 3)) from hS 3 (by decide)) (g := (mkF m 1 #[.val (.ref (A 2))] [(.ref (A 2))])) rfl (hb hby d3m15_1)
  refine OGets.step st40 ?_
  show OGets p e below _ (T40.setTop (mkF m 4 #[.val (.ref (A 2))] [(.ref (A 3)), (.ref (A 2))]))
  refine OGets.step (fun _ => Jvm.RoadKit.acmp (g := (mkF m 4 #[.val (.ref (A 2))] [(.ref (A 3)), (.ref (A 2))])) X40 hx rfl rfl rfl (pc0 := 4) (pc' := 7) (same := false) rfl (hb hby d3m15_4) rfl (decide_eq_false fun q => absurd (hI 2 3 (by decide) (by decide) (Value.ref.inj q)) (by decide)) (by decide) (by decide)) ?_
  show OGets p e below _ (T40.setTop (mkF m 7 #[.val (.ref (A 2))] []))
  refine OGets.step (fun _ => XS.aloadN X40.here hx rfl (hb hby d3m15_7) rfl rfl) ?_
  show OGets p e below _ (T40.setTop (mkF m 8 #[.val (.ref (A 2))] [(.ref (A 2))]))
  obtain ⟨T41, X41, e41, st41⟩ := getS2 X40 hx hZ hown (host := "") (Or.inl (hw _ (List.mem_of_getElem? (i := 15) rfl))) Via.refl e40 (show Sta Z h0 "com/example/pelt/pelt/Axis" "ATTRIBUTE" "Lcom/example/pelt/pelt/Axis;" (.ref (A 2)) from hS 2 (by decide)) (g := (mkF m 8 #[.val (.ref (A 2))] [(.ref (A 2))])) rfl (hb hby d3m15_8)
  refine OGets.step st41 ?_
  show OGets p e below _ (T41.setTop (mkF m 11 #[.val (.ref (A 2))] [(.ref (A 2)), (.ref (A 2))]))
  refine OGets.step (fun _ => Jvm.RoadKit.acmp (g := (mkF m 11 #[.val (.ref (A 2))] [(.ref (A 2)), (.ref (A 2))])) X41 hx rfl rfl rfl (pc0 := 11) (pc' := 39) (same := true) rfl (hb hby d3m15_11) rfl (decide_eq_true rfl) (by decide) (by decide)) ?_
  show OGets p e below _ (T41.setTop (mkF m 39 #[.val (.ref (A 2))] []))
  refine OGets.step (fun _ => XS.iconst X41.here hx rfl (hb hby d3m15_39)) ?_
  show OGets p e below _ (T41.setTop (mkF m 40 #[.val (.ref (A 2))] [(.int (0 : Int32))]))
  refine OGets.retN X41 hx hlk (t := .boolean) Bd.returns (by simp) (hb hby d3m15_40) (Nat.le_of_ble_eq_true rfl) (Nat.le_of_ble_eq_true rfl) ?_
  exact ⟨rfl, rfl, e41⟩
theorem d3m6_14 : decode prog_3_method_6_code 14 = .ok (.aload_n 0, 1) := by decide +kernel
theorem d3m6_15 : decode prog_3_method_6_code 15 = .ok (.getstatic 34, 3) := by decide +kernel
theorem d3m6_18 : decode prog_3_method_6_code 18 = .ok (.if_acmp .eq 10, 3) := by decide +kernel
theorem d3m6_21 : decode prog_3_method_6_code 21 = .ok (.aload_n 0, 1) := by decide +kernel
theorem d3m6_22 : decode prog_3_method_6_code 22 = .ok (.getstatic 37, 3) := by decide +kernel
theorem d3m6_25 : decode prog_3_method_6_code 25 = .ok (.if_acmp .ne 7, 3) := by decide +kernel
theorem d3m6_32 : decode prog_3_method_6_code 32 = .ok (.iconst 0, 1) := by decide +kernel
theorem ef_rv2 (m : MethodId) (x0 : Addr) : entryFrame m #[(.ref x0)] 1 = mkF m 0 #[.val (.ref x0)] [] := by first | (simp [entryFrame, mkF, argsToLocals, Value.category]; done) | rfl
def Q_rv2 (Z : State) (A : Nat → Addr) (h0 : Heap) (n0 : Nat) (v : Option Value) (h : Heap) (L : List Loc) : Prop := v = some (.int (0 : Int32)) ∧ L = [] ∧ h = h0
set_option maxRecDepth 65536 in
set_option maxHeartbeats 40000000 in
theorem rm_rv2 (l : Launch) (Z : State) (a0 : Array Value) (hw : ∀ d ∈ tables_1, d.before a0 Z = true) (ws : List Jvm.Cond) (A : Nat → Addr) (h0 : Heap) (n0 : Nat) (Z0 : n0 ≤ h0.size) (hS : ∀ i, i < 13 → Sta Z h0 "com/example/pelt/pelt/Axis" (nmOf i) "Lcom/example/pelt/pelt/Axis;" (.ref (A i))) (hI : ∀ i j, i < 13 → j < 13 → A i = A j → i = j) :
    MetFree l (⟨"com/example/pelt/pelt/Axis", "isReverse", "()Z"⟩ : MethodName) (head1 (Jvm.Cond.code (⟨"com/example/pelt/pelt/Axis", "isReverse", "()Z"⟩ : MethodName) prog_3_method_6_code 1 (some .boolean) :: ws) ({ frames := 0, cells := 0, slots := 0, locals := 0 } : Room)) (fun a_ U => a_ = #[(.ref (A 2))] ∧ Z.Warmed39 U.vm ∧ U.heap = h0) (fun _ _ _ _ _ => True) (fun _ U o U' => ∃ v L, o = .returned v ∧ Q_rv2 Z A h0 n0 v U'.heap L ∧ FrameEnd U o U' L ({ frames := 0, cells := 0, slots := 0, locals := 0 } : Room).cells ({ frames := 0, cells := 0, slots := 0, locals := 0 } : Room).slots) := by
  refine MetFree.of_bodySF (plainFor_of_name pn_1) hisR ?_
  intro p e s m args below meth c s₁ Bd hml0 hP hK
  obtain ⟨rfl, hZ, hh⟩ := hP
  have hx := Bd.exec
  have hby := Bd.bytes
  have hlk : meth.locks = false := Bd.notSynchronized
  have hml : c.maxLocals = 1 := hml0
  have hown : s.vm.findClass "com/example/pelt/pelt/Axis" = some m.cls := findClass_of_methodNamed Bd.named
  have hnm := (name_of_methodNamed Bd.named Bd.method).1
  have X0 : Stand p l e ({ frames := 0, cells := 0, slots := 0, locals := 0 } : Room) s m #[(.ref (A 2))] below meth c s₁ [] 0 0 := Stand.of_body Bd
  have e0 : s₁.heap = h0 := by rw [← hh, Bd.state]; rfl
  have N0 := Fr.nil n0
  show OGets p e below (OLeaves s (Q_rv2 Z A h0 n0 ) ({ frames := 0, cells := 0, slots := 0, locals := 0 } : Room).cells ({ frames := 0, cells := 0, slots := 0, locals := 0 } : Room).slots) _
  refine OGets.enter (ef_rv2 m (A 2)) ?_
  show OGets p e below _ (s₁.setTop (mkF m 0 #[.val (.ref (A 2))] []))
  refine OGets.step (fun _ => XS.aloadN X0.here hx rfl (hb hby d3m6_0) rfl rfl) ?_
  show OGets p e below _ (s₁.setTop (mkF m 1 #[.val (.ref (A 2))] [(.ref (A 2))]))
  obtain ⟨T42, X42, e42, st42⟩ := getS2 X0 hx hZ hown (host := "") (Or.inl (hw _ (List.mem_of_getElem? (i := 28) rfl))) Via.refl e0 (show Sta Z h0 "com/example/pelt/pelt/Axis" "ANCESTOR" "Lcom/example/pelt/pelt/Axis;" (.ref (A 0)) from hS 0 (by decide)) (g := (mkF m 1 #[.val (.ref (A 2))] [(.ref (A 2))])) rfl (hb hby d3m6_1)
  refine OGets.step st42 ?_
  show OGets p e below _ (T42.setTop (mkF m 4 #[.val (.ref (A 2))] [(.ref (A 0)), (.ref (A 2))]))
  refine OGets.step (fun _ => Jvm.RoadKit.acmp (g := (mkF m 4 #[.val (.ref (A 2))] [(.ref (A 0)), (.ref (A 2))])) X42 hx rfl rfl rfl (pc0 := 4) (pc' := 7) (same := false) rfl (hb hby d3m6_4) rfl (decide_eq_false fun q => absurd (hI 2 0 (by decide) (by decide) (Value.ref.inj q)) (by decide)) (by decide) (by decide)) ?_
  show OGets p e below _ (T42.setTop (mkF m 7 #[.val (.ref (A 2))] []))
  refine OGets.step (fun _ => XS.aloadN X42.here hx rfl (hb hby d3m6_7) rfl rfl) ?_
  show OGets p e below _ (T42.setTop (mkF m 8 #[.val (.ref (A 2))] [(.ref (A 2))]))
  obtain ⟨T43, X43, e43, st43⟩ := getS2 X42 hx hZ hown (host := "") (Or.inl (hw _ (List.mem_of_getElem? (i := 35) rfl))) Via.refl e42 (show Sta Z h0 "com/example/pelt/pelt/Axis" "ANCESTOR_OR_SELF" "Lcom/example/pelt/pelt/Axis;" (.ref (A 1)) from hS 1 (by decide)) (g := (mkF m 8 #[.val (.ref (A 2))] [(.ref (A 2))])) rfl (hb hby d3m6_8)
  refine OGets.step st43 ?_
  show OGets p e below _ (T43.setTop (mkF m 11 #[.val (.ref (A 2))] [(.ref (A 1)), (.ref (A 2))]))
  refine OGets.step (fun _ => Jvm.RoadKit.acmp (g := (mkF m 11 #[.val (.ref (A 2))] [(.ref (A 1)), (.ref (A 2))])) X43 hx rfl rfl rfl (pc0 := 11) (pc' := 14) (same := false) rfl (hb hby d3m6_11) rfl (decide_eq_false fun q => absurd (hI 2 1 (by decide) (by decide) (Value.ref.inj q)) (by decide)) (by decide) (by decide)) ?_
  show OGets p e below _ (T43.setTop (mkF m 14 #[.val (.ref (A 2))] []))
  refine OGets.step (fun _ => XS.aloadN X43.here hx rfl (hb hby d3m6_14) rfl rfl) ?_
  show OGets p e below _ (T43.setTop (mkF m 15 #[.val (.ref (A 2))] [(.ref (A 2))]))
  obtain ⟨T44, X44, e44, st44⟩ := getS2 X43 hx hZ hown (host := "") (Or.inl (hw _ (List.mem_of_getElem? (i := 37) rfl))) Via.refl e43 (show Sta Z h0 "com/example/pelt/pelt/Axis" "PRECEDING" "Lcom/example/pelt/pelt/Axis;" (.ref (A 10)) from hS 10 (by decide)) (g := (mkF m 15 #[.val (.ref (A 2))] [(.ref (A 2))])) rfl (hb hby d3m6_15)
  refine OGets.step st44 ?_
  show OGets p e below _ (T44.setTop (mkF m 18 #[.val (.ref (A 2))] [(.ref (A 10)), (.ref (A 2))]))
  refine OGets.step (fun _ => Jvm.RoadKit.acmp (g := (mkF m 18 #[.val (.ref (A 2))] [(.ref (A 10)), (.ref (A 2))])) X44 hx rfl rfl rfl (pc0 := 18) (pc' := 21) (same := false) rfl (hb hby d3m6_18) rfl (decide_eq_false fun q => absurd (hI 2 10 (by decide) (by decide) (Value.ref.inj q)) (by decide)) (by decide) (by decide)) ?_
  show OGets p e below _ (T44.setTop (mkF m 21 #[.val (.ref (A 2))] []))
  refine OGets.step (fun _ => XS.aloadN X44.here hx rfl (hb hby d3m6_21) rfl rfl) ?_
  show OGets p e below _ (T44.setTop (mkF m 22 #[.val (.ref (A 2))] [(.ref (A 2))]))
  obtain ⟨T45, X45, e45, st45⟩ := getS2 X44 hx hZ hown (host := "") (Or.inl (hw _ (List.mem_of_getElem? (i := 39) rfl))) Via.refl e44 (show Sta Z h0 "com/example/pelt/pelt/Axis" "PRECEDING_SIBLING" "Lcom/example/pelt/pelt/Axis;" (.ref (A 11)) from hS 11 (by decide)) (g := (mkF m 22 #[.val (.ref (A 2))] [(.ref (A 2))])) rfl (hb hby d3m6_22)
  refine OGets.step st45 ?_
  show OGets p e below _ (T45.setTop (mkF m 25 #[.val (.ref (A 2))] [(.ref (A 11)), (.ref (A 2))]))
  refine OGets.step (fun _ => Jvm.RoadKit.acmp (g := (mkF m 25 #[.val (.ref (A 2))] [(.ref (A 11)), (.ref (A 2))])) X45 hx rfl rfl rfl (pc0 := 25) (pc' := 32) (same := false) rfl (hb hby d3m6_25) rfl (decide_eq_false fun q => absurd (hI 2 11 (by decide) (by decide) (Value.ref.inj q)) (by decide)) (by decide) (by decide)) ?_
  show OGets p e below _ (T45.setTop (mkF m 32 #[.val (.ref (A 2))] []))
  refine OGets.step (fun _ => XS.iconst X45.here hx rfl (hb hby d3m6_32)) ?_
  show OGets p e below _ (T45.setTop (mkF m 33 #[.val (.ref (A 2))] [(.int (0 : Int32))]))
  refine OGets.retN X45 hx hlk (t := .boolean) Bd.returns (by simp) (hb hby d3m6_33) (Nat.le_of_ble_eq_true rfl) (Nat.le_of_ble_eq_true rfl) ?_
  exact ⟨rfl, rfl, e45⟩
theorem dm3_13 : decode method_3_code 13 = .ok (.iconst 0, 1) := by decide +kernel
theorem dm3_72 : decode method_3_code 72 = .ok (.iload_n 2, 1) := by decide +kernel
theorem dm3_73 : decode method_3_code 73 = .ok (.ifCond .ne 12, 3) := by decide +kernel
theorem dm3_76 : decode method_3_code 76 = .ok (.iload_n 3, 1) := by decide +kernel
theorem dm3_77 : decode method_3_code 77 = .ok (.ifCond .ne 8, 3) := by decide +kernel
theorem dm3_80 : decode method_3_code 80 = .ok (.iload 4, 2) := by decide +kernel
theorem dm3_82 : decode method_3_code 82 = .ok (.ifCond .eq 7, 3) := by decide +kernel
theorem dm3_89 : decode method_3_code 89 = .ok (.iconst 0, 1) := by decide +kernel
theorem ef_ex2 (m : MethodId) (x0 : Int32) : entryFrame m #[(.int x0)] 5 = mkF m 0 #[.val (.int x0), .unset, .unset, .unset, .unset] [] := by first | (simp [entryFrame, mkF, argsToLocals, Value.category]; done) | rfl
def Q_ex2 (Z : State)  (h0 : Heap) (n0 : Nat) (v : Option Value) (h : Heap) (L : List Loc) : Prop := v = some (.int (0 : Int32)) ∧ L = [] ∧ h = h0
set_option maxRecDepth 65536 in
set_option maxHeartbeats 40000000 in
theorem rm_ex2 (l : Launch) (Z : State) (a0 : Array Value) (hw : ∀ d ∈ tables_1, d.before a0 Z = true) (ws : List Jvm.Cond)  (h0 : Heap) (n0 : Nat) (Z0 : n0 ≤ h0.size) :
    MetFree l (⟨"com/example/pelt/pelt/AxisListsOverlapPinLaw", "expected", "(I)Z"⟩ : MethodName) (head1 (Jvm.Cond.code (⟨"com/example/pelt/pelt/AxisListsOverlapPinLaw", "expected", "(I)Z"⟩ : MethodName) method_3_code 5 (some .boolean) :: ws) ({ frames := 0, cells := 0, slots := 0, locals := 0 } : Room)) (fun a_ U => a_ = #[(.int (2 : Int32))] ∧ Z.Warmed39 U.vm ∧ U.heap = h0) (fun _ _ _ _ _ => True) (fun _ U o U' => ∃ v L, o = .returned v ∧ Q_ex2 Z  h0 n0 v U'.heap L ∧ FrameEnd U o U' L ({ frames := 0, cells := 0, slots := 0, locals := 0 } : Room).cells ({ frames := 0, cells := 0, slots := 0, locals := 0 } : Room).slots) := by
  refine MetFree.of_bodySF (plainFor_of_name pn_0) hisR ?_
  intro p e s m args below meth c s₁ Bd hml0 hP hK
  obtain ⟨rfl, hZ, hh⟩ := hP
  have hx := Bd.exec
  have hby := Bd.bytes
  have hlk : meth.locks = false := Bd.notSynchronized
  have hml : c.maxLocals = 5 := hml0
  have hown : s.vm.findClass "com/example/pelt/pelt/AxisListsOverlapPinLaw" = some m.cls := findClass_of_methodNamed Bd.named
  have hnm := (name_of_methodNamed Bd.named Bd.method).1
  have X0 : Stand p l e ({ frames := 0, cells := 0, slots := 0, locals := 0 } : Room) s m #[(.int (2 : Int32))] below meth c s₁ [] 0 0 := Stand.of_body Bd
  have e0 : s₁.heap = h0 := by rw [← hh, Bd.state]; rfl
  have N0 := Fr.nil n0
  show OGets p e below (OLeaves s (Q_ex2 Z  h0 n0 ) ({ frames := 0, cells := 0, slots := 0, locals := 0 } : Room).cells ({ frames := 0, cells := 0, slots := 0, locals := 0 } : Room).slots) _
  refine OGets.enter (ef_ex2 m (2 : Int32)) ?_
  show OGets p e below _ (s₁.setTop (mkF m 0 #[.val (.int (2 : Int32)), .unset, .unset, .unset, .unset] []))
  refine OGets.step (fun _ => XS.iloadN X0.here hx rfl (hb hby dm3_0) rfl) ?_
  show OGets p e below _ (s₁.setTop (mkF m 1 #[.val (.int (2 : Int32)), .unset, .unset, .unset, .unset] [(.int (2 : Int32))]))
  refine OGets.step (fun _ => XS.ifNo X0.here hx rfl (hb hby dm3_1) rfl ((if0 _ _).trans (feq (by decide : ¬ ((2 : Int32) = (0 : Int32)))).1)) ?_
  show OGets p e below _ (s₁.setTop (mkF m 4 #[.val (.int (2 : Int32)), .unset, .unset, .unset, .unset] []))
  refine OGets.step (fun _ => XS.iloadN X0.here hx rfl (hb hby dm3_4) rfl) ?_
  show OGets p e below _ (s₁.setTop (mkF m 5 #[.val (.int (2 : Int32)), .unset, .unset, .unset, .unset] [(.int (2 : Int32))]))
  refine OGets.step (fun _ => XS.iconst X0.here hx rfl (hb hby dm3_5)) ?_
  show OGets p e below _ (s₁.setTop (mkF m 6 #[.val (.int (2 : Int32)), .unset, .unset, .unset, .unset] [(.int (1 : Int32)), (.int (2 : Int32))]))
  refine OGets.step (fun _ => XS.icmpYes X0.here hx rfl (pc0 := 6) (pc' := 13) rfl (hb hby dm3_6) rfl (feq (by decide : ¬ ((2 : Int32) = (1 : Int32)))).2 (by decide) (by decide)) ?_
  show OGets p e below _ (s₁.setTop (mkF m 13 #[.val (.int (2 : Int32)), .unset, .unset, .unset, .unset] []))
  refine OGets.step (fun _ => XS.iconst X0.here hx rfl (hb hby dm3_13)) ?_
  show OGets p e below _ (s₁.setTop (mkF m 14 #[.val (.int (2 : Int32)), .unset, .unset, .unset, .unset] [(.int (0 : Int32))]))
  refine OGets.step (fun _ => XS.istoreN X0.here hx rfl (hb hby dm3_14) rfl (l' := #[.val (.int (2 : Int32)), .val (.int (0 : Int32)), .unset, .unset, .unset]) rfl) ?_
  show OGets p e below _ (s₁.setTop (mkF m 15 #[.val (.int (2 : Int32)), .val (.int (0 : Int32)), .unset, .unset, .unset] []))
  refine OGets.step (fun _ => XS.iloadN X0.here hx rfl (hb hby dm3_15) rfl) ?_
  show OGets p e below _ (s₁.setTop (mkF m 16 #[.val (.int (2 : Int32)), .val (.int (0 : Int32)), .unset, .unset, .unset] [(.int (2 : Int32))]))
  refine OGets.step (fun _ => XS.iconst X0.here hx rfl (hb hby dm3_16)) ?_
  show OGets p e below _ (s₁.setTop (mkF m 17 #[.val (.int (2 : Int32)), .val (.int (0 : Int32)), .unset, .unset, .unset] [(.int (4 : Int32)), (.int (2 : Int32))]))
  refine OGets.step (fun _ => XS.icmpNo X0.here hx rfl (hb hby dm3_17) rfl (feq (by decide : ¬ ((2 : Int32) = (4 : Int32)))).1) ?_
  show OGets p e below _ (s₁.setTop (mkF m 20 #[.val (.int (2 : Int32)), .val (.int (0 : Int32)), .unset, .unset, .unset] []))
  refine OGets.step (fun _ => XS.iloadN X0.here hx rfl (hb hby dm3_20) rfl) ?_
  show OGets p e below _ (s₁.setTop (mkF m 21 #[.val (.int (2 : Int32)), .val (.int (0 : Int32)), .unset, .unset, .unset] [(.int (2 : Int32))]))
  refine OGets.step (fun _ => XS.iconst X0.here hx rfl (hb hby dm3_21)) ?_
  show OGets p e below _ (s₁.setTop (mkF m 22 #[.val (.int (2 : Int32)), .val (.int (0 : Int32)), .unset, .unset, .unset] [(.int (5 : Int32)), (.int (2 : Int32))]))
  refine OGets.step (fun _ => XS.icmpYes X0.here hx rfl (pc0 := 22) (pc' := 29) rfl (hb hby dm3_22) rfl (feq (by decide : ¬ ((2 : Int32) = (5 : Int32)))).2 (by decide) (by decide)) ?_
  show OGets p e below _ (s₁.setTop (mkF m 29 #[.val (.int (2 : Int32)), .val (.int (0 : Int32)), .unset, .unset, .unset] []))
  refine OGets.step (fun _ => XS.iconst X0.here hx rfl (hb hby dm3_29)) ?_
  show OGets p e below _ (s₁.setTop (mkF m 30 #[.val (.int (2 : Int32)), .val (.int (0 : Int32)), .unset, .unset, .unset] [(.int (0 : Int32))]))
  refine OGets.step (fun _ => XS.istoreN X0.here hx rfl (hb hby dm3_30) rfl (l' := #[.val (.int (2 : Int32)), .val (.int (0 : Int32)), .val (.int (0 : Int32)), .unset, .unset]) rfl) ?_
  show OGets p e below _ (s₁.setTop (mkF m 31 #[.val (.int (2 : Int32)), .val (.int (0 : Int32)), .val (.int (0 : Int32)), .unset, .unset] []))
  refine OGets.step (fun _ => XS.iloadN X0.here hx rfl (hb hby dm3_31) rfl) ?_
  show OGets p e below _ (s₁.setTop (mkF m 32 #[.val (.int (2 : Int32)), .val (.int (0 : Int32)), .val (.int (0 : Int32)), .unset, .unset] [(.int (2 : Int32))]))
  refine OGets.step (fun _ => XS.bipush X0.here hx rfl (hb hby dm3_32)) ?_
  show OGets p e below _ (s₁.setTop (mkF m 34 #[.val (.int (2 : Int32)), .val (.int (0 : Int32)), .val (.int (0 : Int32)), .unset, .unset] [(.int (6 : Int32)), (.int (2 : Int32))]))
  refine OGets.step (fun _ => XS.icmpNo X0.here hx rfl (hb hby dm3_34) rfl (feq (by decide : ¬ ((2 : Int32) = (6 : Int32)))).1) ?_
  show OGets p e below _ (s₁.setTop (mkF m 37 #[.val (.int (2 : Int32)), .val (.int (0 : Int32)), .val (.int (0 : Int32)), .unset, .unset] []))
  refine OGets.step (fun _ => XS.iloadN X0.here hx rfl (hb hby dm3_37) rfl) ?_
  show OGets p e below _ (s₁.setTop (mkF m 38 #[.val (.int (2 : Int32)), .val (.int (0 : Int32)), .val (.int (0 : Int32)), .unset, .unset] [(.int (2 : Int32))]))
  refine OGets.step (fun _ => XS.bipush X0.here hx rfl (hb hby dm3_38)) ?_
  show OGets p e below _ (s₁.setTop (mkF m 40 #[.val (.int (2 : Int32)), .val (.int (0 : Int32)), .val (.int (0 : Int32)), .unset, .unset] [(.int (7 : Int32)), (.int (2 : Int32))]))
  refine OGets.step (fun _ => XS.icmpYes X0.here hx rfl (pc0 := 40) (pc' := 47) rfl (hb hby dm3_40) rfl (feq (by decide : ¬ ((2 : Int32) = (7 : Int32)))).2 (by decide) (by decide)) ?_
  show OGets p e below _ (s₁.setTop (mkF m 47 #[.val (.int (2 : Int32)), .val (.int (0 : Int32)), .val (.int (0 : Int32)), .unset, .unset] []))
  refine OGets.step (fun _ => XS.iconst X0.here hx rfl (hb hby dm3_47)) ?_
  show OGets p e below _ (s₁.setTop (mkF m 48 #[.val (.int (2 : Int32)), .val (.int (0 : Int32)), .val (.int (0 : Int32)), .unset, .unset] [(.int (0 : Int32))]))
  refine OGets.step (fun _ => XS.istoreN X0.here hx rfl (hb hby dm3_48) rfl (l' := #[.val (.int (2 : Int32)), .val (.int (0 : Int32)), .val (.int (0 : Int32)), .val (.int (0 : Int32)), .unset]) rfl) ?_
  show OGets p e below _ (s₁.setTop (mkF m 49 #[.val (.int (2 : Int32)), .val (.int (0 : Int32)), .val (.int (0 : Int32)), .val (.int (0 : Int32)), .unset] []))
  refine OGets.step (fun _ => XS.iloadN X0.here hx rfl (hb hby dm3_49) rfl) ?_
  show OGets p e below _ (s₁.setTop (mkF m 50 #[.val (.int (2 : Int32)), .val (.int (0 : Int32)), .val (.int (0 : Int32)), .val (.int (0 : Int32)), .unset] [(.int (2 : Int32))]))
  refine OGets.step (fun _ => XS.bipush X0.here hx rfl (hb hby dm3_50)) ?_
  show OGets p e below _ (s₁.setTop (mkF m 52 #[.val (.int (2 : Int32)), .val (.int (0 : Int32)), .val (.int (0 : Int32)), .val (.int (0 : Int32)), .unset] [(.int (10 : Int32)), (.int (2 : Int32))]))
  refine OGets.step (fun _ => XS.icmpNo X0.here hx rfl (hb hby dm3_52) rfl (feq (by decide : ¬ ((2 : Int32) = (10 : Int32)))).1) ?_
  show OGets p e below _ (s₁.setTop (mkF m 55 #[.val (.int (2 : Int32)), .val (.int (0 : Int32)), .val (.int (0 : Int32)), .val (.int (0 : Int32)), .unset] []))
  refine OGets.step (fun _ => XS.iloadN X0.here hx rfl (hb hby dm3_55) rfl) ?_
  show OGets p e below _ (s₁.setTop (mkF m 56 #[.val (.int (2 : Int32)), .val (.int (0 : Int32)), .val (.int (0 : Int32)), .val (.int (0 : Int32)), .unset] [(.int (2 : Int32))]))
  refine OGets.step (fun _ => XS.bipush X0.here hx rfl (hb hby dm3_56)) ?_
  show OGets p e below _ (s₁.setTop (mkF m 58 #[.val (.int (2 : Int32)), .val (.int (0 : Int32)), .val (.int (0 : Int32)), .val (.int (0 : Int32)), .unset] [(.int (11 : Int32)), (.int (2 : Int32))]))
  refine OGets.step (fun _ => XS.icmpYes X0.here hx rfl (pc0 := 58) (pc' := 65) rfl (hb hby dm3_58) rfl (feq (by decide : ¬ ((2 : Int32) = (11 : Int32)))).2 (by decide) (by decide)) ?_
  show OGets p e below _ (s₁.setTop (mkF m 65 #[.val (.int (2 : Int32)), .val (.int (0 : Int32)), .val (.int (0 : Int32)), .val (.int (0 : Int32)), .unset] []))
  refine OGets.step (fun _ => XS.iconst X0.here hx rfl (hb hby dm3_65)) ?_
  show OGets p e below _ (s₁.setTop (mkF m 66 #[.val (.int (2 : Int32)), .val (.int (0 : Int32)), .val (.int (0 : Int32)), .val (.int (0 : Int32)), .unset] [(.int (0 : Int32))]))
  refine OGets.step (fun _ => XS.istore X0.here hx rfl (hb hby dm3_66) rfl (l' := #[.val (.int (2 : Int32)), .val (.int (0 : Int32)), .val (.int (0 : Int32)), .val (.int (0 : Int32)), .val (.int (0 : Int32))]) rfl) ?_
  show OGets p e below _ (s₁.setTop (mkF m 68 #[.val (.int (2 : Int32)), .val (.int (0 : Int32)), .val (.int (0 : Int32)), .val (.int (0 : Int32)), .val (.int (0 : Int32))] []))
  refine OGets.step (fun _ => XS.iloadN X0.here hx rfl (hb hby dm3_68) rfl) ?_
  show OGets p e below _ (s₁.setTop (mkF m 69 #[.val (.int (2 : Int32)), .val (.int (0 : Int32)), .val (.int (0 : Int32)), .val (.int (0 : Int32)), .val (.int (0 : Int32))] [(.int (0 : Int32))]))
  refine OGets.step (fun _ => XS.ifNo X0.here hx rfl (hb hby dm3_69) rfl ((if0 _ _).trans (teq (by decide : (0 : Int32) = (0 : Int32))).2)) ?_
  show OGets p e below _ (s₁.setTop (mkF m 72 #[.val (.int (2 : Int32)), .val (.int (0 : Int32)), .val (.int (0 : Int32)), .val (.int (0 : Int32)), .val (.int (0 : Int32))] []))
  refine OGets.step (fun _ => XS.iloadN X0.here hx rfl (hb hby dm3_72) rfl) ?_
  show OGets p e below _ (s₁.setTop (mkF m 73 #[.val (.int (2 : Int32)), .val (.int (0 : Int32)), .val (.int (0 : Int32)), .val (.int (0 : Int32)), .val (.int (0 : Int32))] [(.int (0 : Int32))]))
  refine OGets.step (fun _ => XS.ifNo X0.here hx rfl (hb hby dm3_73) rfl ((if0 _ _).trans (teq (by decide : (0 : Int32) = (0 : Int32))).2)) ?_
  show OGets p e below _ (s₁.setTop (mkF m 76 #[.val (.int (2 : Int32)), .val (.int (0 : Int32)), .val (.int (0 : Int32)), .val (.int (0 : Int32)), .val (.int (0 : Int32))] []))
  refine OGets.step (fun _ => XS.iloadN X0.here hx rfl (hb hby dm3_76) rfl) ?_
  show OGets p e below _ (s₁.setTop (mkF m 77 #[.val (.int (2 : Int32)), .val (.int (0 : Int32)), .val (.int (0 : Int32)), .val (.int (0 : Int32)), .val (.int (0 : Int32))] [(.int (0 : Int32))]))
  refine OGets.step (fun _ => XS.ifNo X0.here hx rfl (hb hby dm3_77) rfl ((if0 _ _).trans (teq (by decide : (0 : Int32) = (0 : Int32))).2)) ?_
  show OGets p e below _ (s₁.setTop (mkF m 80 #[.val (.int (2 : Int32)), .val (.int (0 : Int32)), .val (.int (0 : Int32)), .val (.int (0 : Int32)), .val (.int (0 : Int32))] []))
  refine OGets.step (fun _ => XS.iload X0.here hx rfl (hb hby dm3_80) rfl) ?_
  show OGets p e below _ (s₁.setTop (mkF m 82 #[.val (.int (2 : Int32)), .val (.int (0 : Int32)), .val (.int (0 : Int32)), .val (.int (0 : Int32)), .val (.int (0 : Int32))] [(.int (0 : Int32))]))
  refine OGets.step (fun _ => XS.ifYes X0.here hx rfl (pc0 := 82) (pc' := 89) rfl (hb hby dm3_82) rfl ((if0 _ _).trans (teq (by decide : (0 : Int32) = (0 : Int32))).1) (by decide) (by decide)) ?_
  show OGets p e below _ (s₁.setTop (mkF m 89 #[.val (.int (2 : Int32)), .val (.int (0 : Int32)), .val (.int (0 : Int32)), .val (.int (0 : Int32)), .val (.int (0 : Int32))] []))
  refine OGets.step (fun _ => XS.iconst X0.here hx rfl (hb hby dm3_89)) ?_
  show OGets p e below _ (s₁.setTop (mkF m 90 #[.val (.int (2 : Int32)), .val (.int (0 : Int32)), .val (.int (0 : Int32)), .val (.int (0 : Int32)), .val (.int (0 : Int32))] [(.int (0 : Int32))]))
  refine OGets.retN X0 hx hlk (t := .boolean) Bd.returns (by simp) (hb hby dm3_90) (Nat.le_of_ble_eq_true rfl) (Nat.le_of_ble_eq_true rfl) ?_
  exact ⟨rfl, rfl, e0⟩
theorem dm2_26 : decode method_2_code 26 = .ok (.iload_n 0, 1) := by decide +kernel
theorem dm2_27 : decode method_2_code 27 = .ok (.iconst 3, 1) := by decide +kernel
theorem dm2_28 : decode method_2_code 28 = .ok (.if_icmp .ne 7, 3) := by decide +kernel
theorem dm2_31 : decode method_2_code 31 = .ok (.getstatic 19, 3) := by decide +kernel
theorem dm2_34 : decode method_2_code 34 = .ok (.areturn, 1) := by decide +kernel
theorem ef_pk3 (m : MethodId) (x0 : Int32) : entryFrame m #[(.int x0)] 1 = mkF m 0 #[.val (.int x0)] [] := by first | (simp [entryFrame, mkF, argsToLocals, Value.category]; done) | rfl
def Q_pk3 (Z : State) (A : Nat → Addr) (h0 : Heap) (n0 : Nat) (v : Option Value) (h : Heap) (L : List Loc) : Prop := v = some (.ref (A 3)) ∧ L = [] ∧ h = h0
set_option maxRecDepth 65536 in
set_option maxHeartbeats 40000000 in
theorem rm_pk3 (l : Launch) (Z : State) (a0 : Array Value) (hw : ∀ d ∈ tables_1, d.before a0 Z = true) (ws : List Jvm.Cond) (A : Nat → Addr) (h0 : Heap) (n0 : Nat) (Z0 : n0 ≤ h0.size) (hS : ∀ i, i < 13 → Sta Z h0 "com/example/pelt/pelt/Axis" (nmOf i) "Lcom/example/pelt/pelt/Axis;" (.ref (A i))) (hI : ∀ i j, i < 13 → j < 13 → A i = A j → i = j) :
    MetFree l (⟨"com/example/pelt/pelt/AxisListsOverlapPinLaw", "pick", "(I)Lcom/example/pelt/pelt/Axis;"⟩ : MethodName) (head1 (Jvm.Cond.code (⟨"com/example/pelt/pelt/AxisListsOverlapPinLaw", "pick", "(I)Lcom/example/pelt/pelt/Axis;"⟩ : MethodName) method_2_code 1 (some (.object "com/example/pelt/pelt/Axis")) :: ws) ({ frames := 0, cells := 0, slots := 0, locals := 0 } : Room)) (fun a_ U => a_ = #[(.int (3 : Int32))] ∧ Z.Warmed39 U.vm ∧ U.heap = h0) (fun _ _ _ _ _ => True) (fun _ U o U' => ∃ v L, o = .returned v ∧ Q_pk3 Z A h0 n0 v U'.heap L ∧ FrameEnd U o U' L ({ frames := 0, cells := 0, slots := 0, locals := 0 } : Room).cells ({ frames := 0, cells := 0, slots := 0, locals := 0 } : Room).slots) := by
  refine MetFree.of_bodySF (plainFor_of_name pn_0) hisR ?_
  intro p e s m args below meth c s₁ Bd hml0 hP hK
  obtain ⟨rfl, hZ, hh⟩ := hP
  have hx := Bd.exec
  have hby := Bd.bytes
  have hlk : meth.locks = false := Bd.notSynchronized
  have hml : c.maxLocals = 1 := hml0
  have hown : s.vm.findClass "com/example/pelt/pelt/AxisListsOverlapPinLaw" = some m.cls := findClass_of_methodNamed Bd.named
  have hnm := (name_of_methodNamed Bd.named Bd.method).1
  have X0 : Stand p l e ({ frames := 0, cells := 0, slots := 0, locals := 0 } : Room) s m #[(.int (3 : Int32))] below meth c s₁ [] 0 0 := Stand.of_body Bd
  have e0 : s₁.heap = h0 := by rw [← hh, Bd.state]; rfl
  have N0 := Fr.nil n0
  show OGets p e below (OLeaves s (Q_pk3 Z A h0 n0 ) ({ frames := 0, cells := 0, slots := 0, locals := 0 } : Room).cells ({ frames := 0, cells := 0, slots := 0, locals := 0 } : Room).slots) _
  refine OGets.enter (ef_pk3 m (3 : Int32)) ?_
  show OGets p e below _ (s₁.setTop (mkF m 0 #[.val (.int (3 : Int32))] []))
  refine OGets.step (fun _ => XS.iloadN X0.here hx rfl (hb hby dm2_0) rfl) ?_
  show OGets p e below _ (s₁.setTop (mkF m 1 #[.val (.int (3 : Int32))] [(.int (3 : Int32))]))
  refine OGets.step (fun _ => XS.ifYes X0.here hx rfl (pc0 := 1) (pc' := 8) rfl (hb hby dm2_1) rfl ((if0 _ _).trans (feq (by decide : ¬ ((3 : Int32) = (0 : Int32)))).2) (by decide) (by decide)) ?_
  show OGets p e below _ (s₁.setTop (mkF m 8 #[.val (.int (3 : Int32))] []))
  refine OGets.step (fun _ => XS.iloadN X0.here hx rfl (hb hby dm2_8) rfl) ?_
  show OGets p e below _ (s₁.setTop (mkF m 9 #[.val (.int (3 : Int32))] [(.int (3 : Int32))]))
  refine OGets.step (fun _ => XS.iconst X0.here hx rfl (hb hby dm2_9)) ?_
  show OGets p e below _ (s₁.setTop (mkF m 10 #[.val (.int (3 : Int32))] [(.int (1 : Int32)), (.int (3 : Int32))]))
  refine OGets.step (fun _ => XS.icmpYes X0.here hx rfl (pc0 := 10) (pc' := 17) rfl (hb hby dm2_10) rfl (feq (by decide : ¬ ((3 : Int32) = (1 : Int32)))).2 (by decide) (by decide)) ?_
  show OGets p e below _ (s₁.setTop (mkF m 17 #[.val (.int (3 : Int32))] []))
  refine OGets.step (fun _ => XS.iloadN X0.here hx rfl (hb hby dm2_17) rfl) ?_
  show OGets p e below _ (s₁.setTop (mkF m 18 #[.val (.int (3 : Int32))] [(.int (3 : Int32))]))
  refine OGets.step (fun _ => XS.iconst X0.here hx rfl (hb hby dm2_18)) ?_
  show OGets p e below _ (s₁.setTop (mkF m 19 #[.val (.int (3 : Int32))] [(.int (2 : Int32)), (.int (3 : Int32))]))
  refine OGets.step (fun _ => XS.icmpYes X0.here hx rfl (pc0 := 19) (pc' := 26) rfl (hb hby dm2_19) rfl (feq (by decide : ¬ ((3 : Int32) = (2 : Int32)))).2 (by decide) (by decide)) ?_
  show OGets p e below _ (s₁.setTop (mkF m 26 #[.val (.int (3 : Int32))] []))
  refine OGets.step (fun _ => XS.iloadN X0.here hx rfl (hb hby dm2_26) rfl) ?_
  show OGets p e below _ (s₁.setTop (mkF m 27 #[.val (.int (3 : Int32))] [(.int (3 : Int32))]))
  refine OGets.step (fun _ => XS.iconst X0.here hx rfl (hb hby dm2_27)) ?_
  show OGets p e below _ (s₁.setTop (mkF m 28 #[.val (.int (3 : Int32))] [(.int (3 : Int32)), (.int (3 : Int32))]))
  refine OGets.step (fun _ => XS.icmpNo X0.here hx rfl (hb hby dm2_28) rfl (teq (by decide : (3 : Int32) = (3 : Int32))).2) ?_
  show OGets p e below _ (s₁.setTop (mkF m 31 #[.val (.int (3 : Int32))] []))
  obtain ⟨T62, X62, e62, st62⟩ := getS2 X0 hx hZ hown (host := "") (Or.inl (hw _ (List.mem_of_getElem? (i := 32) rfl))) Via.refl e0 (show Sta Z h0 "com/example/pelt/pelt/Axis" "CHILD" "Lcom/example/pelt/pelt/Axis;" (.ref (A 3)) from hS 3 (by decide)) (g := (mkF m 31 #[.val (.int (3 : Int32))] [])) rfl (hb hby dm2_31)
  refine OGets.step st62 ?_
  show OGets p e below _ (T62.setTop (mkF m 34 #[.val (.int (3 : Int32))] [(.ref (A 3))]))
  refine OGets.retA X62 hx hlk (t := (.object "com/example/pelt/pelt/Axis")) Bd.returns rfl rfl rfl (hb hby dm2_34) (Nat.le_of_ble_eq_true rfl) (Nat.le_of_ble_eq_true rfl) ?_
  exact ⟨rfl, rfl, e62⟩
theorem ef_lo3 (m : MethodId) (x0 : Addr) : entryFrame m #[(.ref x0)] 1 = mkF m 0 #[.val (.ref x0)] [] := by first | (simp [entryFrame, mkF, argsToLocals, Value.category]; done) | rfl
def Q_lo3 (Z : State) (A : Nat → Addr) (h0 : Heap) (n0 : Nat) (v : Option Value) (h : Heap) (L : List Loc) : Prop := v = some (.int (0 : Int32)) ∧ L = [] ∧ h = h0
set_option maxRecDepth 65536 in
set_option maxHeartbeats 40000000 in
theorem rm_lo3 (l : Launch) (Z : State) (a0 : Array Value) (hw : ∀ d ∈ tables_1, d.before a0 Z = true) (ws : List Jvm.Cond) (A : Nat → Addr) (h0 : Heap) (n0 : Nat) (Z0 : n0 ≤ h0.size) (hS : ∀ i, i < 13 → Sta Z h0 "com/example/pelt/pelt/Axis" (nmOf i) "Lcom/example/pelt/pelt/Axis;" (.ref (A i))) (hI : ∀ i j, i < 13 → j < 13 → A i = A j → i = j) :
    MetFree l (⟨"com/example/pelt/pelt/Axis", "listsOverlap", "()Z"⟩ : MethodName) (head1 (Jvm.Cond.code (⟨"com/example/pelt/pelt/Axis", "listsOverlap", "()Z"⟩ : MethodName) prog_3_method_15_code 1 (some .boolean) :: ws) ({ frames := 0, cells := 0, slots := 0, locals := 0 } : Room)) (fun a_ U => a_ = #[(.ref (A 3))] ∧ Z.Warmed39 U.vm ∧ U.heap = h0) (fun _ _ _ _ _ => True) (fun _ U o U' => ∃ v L, o = .returned v ∧ Q_lo3 Z A h0 n0 v U'.heap L ∧ FrameEnd U o U' L ({ frames := 0, cells := 0, slots := 0, locals := 0 } : Room).cells ({ frames := 0, cells := 0, slots := 0, locals := 0 } : Room).slots) := by
  refine MetFree.of_bodySF (plainFor_of_name pn_1) hisR ?_
  intro p e s m args below meth c s₁ Bd hml0 hP hK
  obtain ⟨rfl, hZ, hh⟩ := hP
  have hx := Bd.exec
  have hby := Bd.bytes
  have hlk : meth.locks = false := Bd.notSynchronized
  have hml : c.maxLocals = 1 := hml0
  have hown : s.vm.findClass "com/example/pelt/pelt/Axis" = some m.cls := findClass_of_methodNamed Bd.named
  have hnm := (name_of_methodNamed Bd.named Bd.method).1
  have X0 : Stand p l e ({ frames := 0, cells := 0, slots := 0, locals := 0 } : Room) s m #[(.ref (A 3))] below meth c s₁ [] 0 0 := Stand.of_body Bd
  have e0 : s₁.heap = h0 := by rw [← hh, Bd.state]; rfl
  have N0 := Fr.nil n0
  show OGets p e below (OLeaves s (Q_lo3 Z A h0 n0 ) ({ frames := 0, cells := 0, slots := 0, locals := 0 } : Room).cells ({ frames := 0, cells := 0, slots := 0, locals := 0 } : Room).slots) _
  refine OGets.enter (ef_lo3 m (A 3)) ?_
  show OGets p e below _ (s₁.setTop (mkF m 0 #[.val (.ref (A 3))] []))
  refine OGets.step (fun _ => XS.aloadN X0.here hx rfl (hb hby d3m15_0) rfl rfl) ?_
  show OGets p e below _ (s₁.setTop (mkF m 1 #[.val (.ref (A 3))] [(.ref (A 3))]))
  obtain ⟨T63, X63, e63, st63⟩ := getS2 X0 hx hZ hown (host := "") (Or.inl (hw _ (List.mem_of_getElem? (i := 13) rfl))) Via.refl e0 (show Sta Z h0 "com/example/pelt/pelt/Axis" "CHILD" "Lcom/example/pelt/pelt/Axis;" (.ref (A 3)) from hS 3 (by decide)) (g := (mkF m 1 #[.val (.ref (A 3))] [(.ref (A 3))])) rfl (hb hby d3m15_1)
  refine OGets.step st63 ?_
  show OGets p e below _ (T63.setTop (mkF m 4 #[.val (.ref (A 3))] [(.ref (A 3)), (.ref (A 3))]))
  refine OGets.step (fun _ => Jvm.RoadKit.acmp (g := (mkF m 4 #[.val (.ref (A 3))] [(.ref (A 3)), (.ref (A 3))])) X63 hx rfl rfl rfl (pc0 := 4) (pc' := 39) (same := true) rfl (hb hby d3m15_4) rfl (decide_eq_true rfl) (by decide) (by decide)) ?_
  show OGets p e below _ (T63.setTop (mkF m 39 #[.val (.ref (A 3))] []))
  refine OGets.step (fun _ => XS.iconst X63.here hx rfl (hb hby d3m15_39)) ?_
  show OGets p e below _ (T63.setTop (mkF m 40 #[.val (.ref (A 3))] [(.int (0 : Int32))]))
  refine OGets.retN X63 hx hlk (t := .boolean) Bd.returns (by simp) (hb hby d3m15_40) (Nat.le_of_ble_eq_true rfl) (Nat.le_of_ble_eq_true rfl) ?_
  exact ⟨rfl, rfl, e63⟩
theorem ef_rv3 (m : MethodId) (x0 : Addr) : entryFrame m #[(.ref x0)] 1 = mkF m 0 #[.val (.ref x0)] [] := by first | (simp [entryFrame, mkF, argsToLocals, Value.category]; done) | rfl
def Q_rv3 (Z : State) (A : Nat → Addr) (h0 : Heap) (n0 : Nat) (v : Option Value) (h : Heap) (L : List Loc) : Prop := v = some (.int (0 : Int32)) ∧ L = [] ∧ h = h0
set_option maxRecDepth 65536 in
set_option maxHeartbeats 40000000 in
theorem rm_rv3 (l : Launch) (Z : State) (a0 : Array Value) (hw : ∀ d ∈ tables_1, d.before a0 Z = true) (ws : List Jvm.Cond) (A : Nat → Addr) (h0 : Heap) (n0 : Nat) (Z0 : n0 ≤ h0.size) (hS : ∀ i, i < 13 → Sta Z h0 "com/example/pelt/pelt/Axis" (nmOf i) "Lcom/example/pelt/pelt/Axis;" (.ref (A i))) (hI : ∀ i j, i < 13 → j < 13 → A i = A j → i = j) :
    MetFree l (⟨"com/example/pelt/pelt/Axis", "isReverse", "()Z"⟩ : MethodName) (head1 (Jvm.Cond.code (⟨"com/example/pelt/pelt/Axis", "isReverse", "()Z"⟩ : MethodName) prog_3_method_6_code 1 (some .boolean) :: ws) ({ frames := 0, cells := 0, slots := 0, locals := 0 } : Room)) (fun a_ U => a_ = #[(.ref (A 3))] ∧ Z.Warmed39 U.vm ∧ U.heap = h0) (fun _ _ _ _ _ => True) (fun _ U o U' => ∃ v L, o = .returned v ∧ Q_rv3 Z A h0 n0 v U'.heap L ∧ FrameEnd U o U' L ({ frames := 0, cells := 0, slots := 0, locals := 0 } : Room).cells ({ frames := 0, cells := 0, slots := 0, locals := 0 } : Room).slots) := by
  refine MetFree.of_bodySF (plainFor_of_name pn_1) hisR ?_
  intro p e s m args below meth c s₁ Bd hml0 hP hK
  obtain ⟨rfl, hZ, hh⟩ := hP
  have hx := Bd.exec
  have hby := Bd.bytes
  have hlk : meth.locks = false := Bd.notSynchronized
  have hml : c.maxLocals = 1 := hml0
  have hown : s.vm.findClass "com/example/pelt/pelt/Axis" = some m.cls := findClass_of_methodNamed Bd.named
  have hnm := (name_of_methodNamed Bd.named Bd.method).1
  have X0 : Stand p l e ({ frames := 0, cells := 0, slots := 0, locals := 0 } : Room) s m #[(.ref (A 3))] below meth c s₁ [] 0 0 := Stand.of_body Bd
  have e0 : s₁.heap = h0 := by rw [← hh, Bd.state]; rfl
  have N0 := Fr.nil n0
  show OGets p e below (OLeaves s (Q_rv3 Z A h0 n0 ) ({ frames := 0, cells := 0, slots := 0, locals := 0 } : Room).cells ({ frames := 0, cells := 0, slots := 0, locals := 0 } : Room).slots) _
  refine OGets.enter (ef_rv3 m (A 3)) ?_
  show OGets p e below _ (s₁.setTop (mkF m 0 #[.val (.ref (A 3))] []))
  refine OGets.step (fun _ => XS.aloadN X0.here hx rfl (hb hby d3m6_0) rfl rfl) ?_
  show OGets p e below _ (s₁.setTop (mkF m 1 #[.val (.ref (A 3))] [(.ref (A 3))]))
  obtain ⟨T64, X64, e64, st64⟩ := getS2 X0 hx hZ hown (host := "") (Or.inl (hw _ (List.mem_of_getElem? (i := 28) rfl))) Via.refl e0 (show Sta Z h0 "com/example/pelt/pelt/Axis" "ANCESTOR" "Lcom/example/pelt/pelt/Axis;" (.ref (A 0)) from hS 0 (by decide)) (g := (mkF m 1 #[.val (.ref (A 3))] [(.ref (A 3))])) rfl (hb hby d3m6_1)
  refine OGets.step st64 ?_
  show OGets p e below _ (T64.setTop (mkF m 4 #[.val (.ref (A 3))] [(.ref (A 0)), (.ref (A 3))]))
  refine OGets.step (fun _ => Jvm.RoadKit.acmp (g := (mkF m 4 #[.val (.ref (A 3))] [(.ref (A 0)), (.ref (A 3))])) X64 hx rfl rfl rfl (pc0 := 4) (pc' := 7) (same := false) rfl (hb hby d3m6_4) rfl (decide_eq_false fun q => absurd (hI 3 0 (by decide) (by decide) (Value.ref.inj q)) (by decide)) (by decide) (by decide)) ?_
  show OGets p e below _ (T64.setTop (mkF m 7 #[.val (.ref (A 3))] []))
  refine OGets.step (fun _ => XS.aloadN X64.here hx rfl (hb hby d3m6_7) rfl rfl) ?_
  show OGets p e below _ (T64.setTop (mkF m 8 #[.val (.ref (A 3))] [(.ref (A 3))]))
  obtain ⟨T65, X65, e65, st65⟩ := getS2 X64 hx hZ hown (host := "") (Or.inl (hw _ (List.mem_of_getElem? (i := 35) rfl))) Via.refl e64 (show Sta Z h0 "com/example/pelt/pelt/Axis" "ANCESTOR_OR_SELF" "Lcom/example/pelt/pelt/Axis;" (.ref (A 1)) from hS 1 (by decide)) (g := (mkF m 8 #[.val (.ref (A 3))] [(.ref (A 3))])) rfl (hb hby d3m6_8)
  refine OGets.step st65 ?_
  show OGets p e below _ (T65.setTop (mkF m 11 #[.val (.ref (A 3))] [(.ref (A 1)), (.ref (A 3))]))
  refine OGets.step (fun _ => Jvm.RoadKit.acmp (g := (mkF m 11 #[.val (.ref (A 3))] [(.ref (A 1)), (.ref (A 3))])) X65 hx rfl rfl rfl (pc0 := 11) (pc' := 14) (same := false) rfl (hb hby d3m6_11) rfl (decide_eq_false fun q => absurd (hI 3 1 (by decide) (by decide) (Value.ref.inj q)) (by decide)) (by decide) (by decide)) ?_
  show OGets p e below _ (T65.setTop (mkF m 14 #[.val (.ref (A 3))] []))
  refine OGets.step (fun _ => XS.aloadN X65.here hx rfl (hb hby d3m6_14) rfl rfl) ?_
  show OGets p e below _ (T65.setTop (mkF m 15 #[.val (.ref (A 3))] [(.ref (A 3))]))
  obtain ⟨T66, X66, e66, st66⟩ := getS2 X65 hx hZ hown (host := "") (Or.inl (hw _ (List.mem_of_getElem? (i := 37) rfl))) Via.refl e65 (show Sta Z h0 "com/example/pelt/pelt/Axis" "PRECEDING" "Lcom/example/pelt/pelt/Axis;" (.ref (A 10)) from hS 10 (by decide)) (g := (mkF m 15 #[.val (.ref (A 3))] [(.ref (A 3))])) rfl (hb hby d3m6_15)
  refine OGets.step st66 ?_
  show OGets p e below _ (T66.setTop (mkF m 18 #[.val (.ref (A 3))] [(.ref (A 10)), (.ref (A 3))]))
  refine OGets.step (fun _ => Jvm.RoadKit.acmp (g := (mkF m 18 #[.val (.ref (A 3))] [(.ref (A 10)), (.ref (A 3))])) X66 hx rfl rfl rfl (pc0 := 18) (pc' := 21) (same := false) rfl (hb hby d3m6_18) rfl (decide_eq_false fun q => absurd (hI 3 10 (by decide) (by decide) (Value.ref.inj q)) (by decide)) (by decide) (by decide)) ?_
  show OGets p e below _ (T66.setTop (mkF m 21 #[.val (.ref (A 3))] []))
  refine OGets.step (fun _ => XS.aloadN X66.here hx rfl (hb hby d3m6_21) rfl rfl) ?_
  show OGets p e below _ (T66.setTop (mkF m 22 #[.val (.ref (A 3))] [(.ref (A 3))]))
  obtain ⟨T67, X67, e67, st67⟩ := getS2 X66 hx hZ hown (host := "") (Or.inl (hw _ (List.mem_of_getElem? (i := 39) rfl))) Via.refl e66 (show Sta Z h0 "com/example/pelt/pelt/Axis" "PRECEDING_SIBLING" "Lcom/example/pelt/pelt/Axis;" (.ref (A 11)) from hS 11 (by decide)) (g := (mkF m 22 #[.val (.ref (A 3))] [(.ref (A 3))])) rfl (hb hby d3m6_22)
  refine OGets.step st67 ?_
  show OGets p e below _ (T67.setTop (mkF m 25 #[.val (.ref (A 3))] [(.ref (A 11)), (.ref (A 3))]))
  refine OGets.step (fun _ => Jvm.RoadKit.acmp (g := (mkF m 25 #[.val (.ref (A 3))] [(.ref (A 11)), (.ref (A 3))])) X67 hx rfl rfl rfl (pc0 := 25) (pc' := 32) (same := false) rfl (hb hby d3m6_25) rfl (decide_eq_false fun q => absurd (hI 3 11 (by decide) (by decide) (Value.ref.inj q)) (by decide)) (by decide) (by decide)) ?_
  show OGets p e below _ (T67.setTop (mkF m 32 #[.val (.ref (A 3))] []))
  refine OGets.step (fun _ => XS.iconst X67.here hx rfl (hb hby d3m6_32)) ?_
  show OGets p e below _ (T67.setTop (mkF m 33 #[.val (.ref (A 3))] [(.int (0 : Int32))]))
  refine OGets.retN X67 hx hlk (t := .boolean) Bd.returns (by simp) (hb hby d3m6_33) (Nat.le_of_ble_eq_true rfl) (Nat.le_of_ble_eq_true rfl) ?_
  exact ⟨rfl, rfl, e67⟩
theorem ef_ex3 (m : MethodId) (x0 : Int32) : entryFrame m #[(.int x0)] 5 = mkF m 0 #[.val (.int x0), .unset, .unset, .unset, .unset] [] := by first | (simp [entryFrame, mkF, argsToLocals, Value.category]; done) | rfl
def Q_ex3 (Z : State)  (h0 : Heap) (n0 : Nat) (v : Option Value) (h : Heap) (L : List Loc) : Prop := v = some (.int (0 : Int32)) ∧ L = [] ∧ h = h0
set_option maxRecDepth 65536 in
set_option maxHeartbeats 40000000 in
theorem rm_ex3 (l : Launch) (Z : State) (a0 : Array Value) (hw : ∀ d ∈ tables_1, d.before a0 Z = true) (ws : List Jvm.Cond)  (h0 : Heap) (n0 : Nat) (Z0 : n0 ≤ h0.size) :
    MetFree l (⟨"com/example/pelt/pelt/AxisListsOverlapPinLaw", "expected", "(I)Z"⟩ : MethodName) (head1 (Jvm.Cond.code (⟨"com/example/pelt/pelt/AxisListsOverlapPinLaw", "expected", "(I)Z"⟩ : MethodName) method_3_code 5 (some .boolean) :: ws) ({ frames := 0, cells := 0, slots := 0, locals := 0 } : Room)) (fun a_ U => a_ = #[(.int (3 : Int32))] ∧ Z.Warmed39 U.vm ∧ U.heap = h0) (fun _ _ _ _ _ => True) (fun _ U o U' => ∃ v L, o = .returned v ∧ Q_ex3 Z  h0 n0 v U'.heap L ∧ FrameEnd U o U' L ({ frames := 0, cells := 0, slots := 0, locals := 0 } : Room).cells ({ frames := 0, cells := 0, slots := 0, locals := 0 } : Room).slots) := by
  refine MetFree.of_bodySF (plainFor_of_name pn_0) hisR ?_
  intro p e s m args below meth c s₁ Bd hml0 hP hK
  obtain ⟨rfl, hZ, hh⟩ := hP
  have hx := Bd.exec
  have hby := Bd.bytes
  have hlk : meth.locks = false := Bd.notSynchronized
  have hml : c.maxLocals = 5 := hml0
  have hown : s.vm.findClass "com/example/pelt/pelt/AxisListsOverlapPinLaw" = some m.cls := findClass_of_methodNamed Bd.named
  have hnm := (name_of_methodNamed Bd.named Bd.method).1
  have X0 : Stand p l e ({ frames := 0, cells := 0, slots := 0, locals := 0 } : Room) s m #[(.int (3 : Int32))] below meth c s₁ [] 0 0 := Stand.of_body Bd
  have e0 : s₁.heap = h0 := by rw [← hh, Bd.state]; rfl
  have N0 := Fr.nil n0
  show OGets p e below (OLeaves s (Q_ex3 Z  h0 n0 ) ({ frames := 0, cells := 0, slots := 0, locals := 0 } : Room).cells ({ frames := 0, cells := 0, slots := 0, locals := 0 } : Room).slots) _
  refine OGets.enter (ef_ex3 m (3 : Int32)) ?_
  show OGets p e below _ (s₁.setTop (mkF m 0 #[.val (.int (3 : Int32)), .unset, .unset, .unset, .unset] []))
  refine OGets.step (fun _ => XS.iloadN X0.here hx rfl (hb hby dm3_0) rfl) ?_
  show OGets p e below _ (s₁.setTop (mkF m 1 #[.val (.int (3 : Int32)), .unset, .unset, .unset, .unset] [(.int (3 : Int32))]))
  refine OGets.step (fun _ => XS.ifNo X0.here hx rfl (hb hby dm3_1) rfl ((if0 _ _).trans (feq (by decide : ¬ ((3 : Int32) = (0 : Int32)))).1)) ?_
  show OGets p e below _ (s₁.setTop (mkF m 4 #[.val (.int (3 : Int32)), .unset, .unset, .unset, .unset] []))
  refine OGets.step (fun _ => XS.iloadN X0.here hx rfl (hb hby dm3_4) rfl) ?_
  show OGets p e below _ (s₁.setTop (mkF m 5 #[.val (.int (3 : Int32)), .unset, .unset, .unset, .unset] [(.int (3 : Int32))]))
  refine OGets.step (fun _ => XS.iconst X0.here hx rfl (hb hby dm3_5)) ?_
  show OGets p e below _ (s₁.setTop (mkF m 6 #[.val (.int (3 : Int32)), .unset, .unset, .unset, .unset] [(.int (1 : Int32)), (.int (3 : Int32))]))
  refine OGets.step (fun _ => XS.icmpYes X0.here hx rfl (pc0 := 6) (pc' := 13) rfl (hb hby dm3_6) rfl (feq (by decide : ¬ ((3 : Int32) = (1 : Int32)))).2 (by decide) (by decide)) ?_
  show OGets p e below _ (s₁.setTop (mkF m 13 #[.val (.int (3 : Int32)), .unset, .unset, .unset, .unset] []))
  refine OGets.step (fun _ => XS.iconst X0.here hx rfl (hb hby dm3_13)) ?_
  show OGets p e below _ (s₁.setTop (mkF m 14 #[.val (.int (3 : Int32)), .unset, .unset, .unset, .unset] [(.int (0 : Int32))]))
  refine OGets.step (fun _ => XS.istoreN X0.here hx rfl (hb hby dm3_14) rfl (l' := #[.val (.int (3 : Int32)), .val (.int (0 : Int32)), .unset, .unset, .unset]) rfl) ?_
  show OGets p e below _ (s₁.setTop (mkF m 15 #[.val (.int (3 : Int32)), .val (.int (0 : Int32)), .unset, .unset, .unset] []))
  refine OGets.step (fun _ => XS.iloadN X0.here hx rfl (hb hby dm3_15) rfl) ?_
  show OGets p e below _ (s₁.setTop (mkF m 16 #[.val (.int (3 : Int32)), .val (.int (0 : Int32)), .unset, .unset, .unset] [(.int (3 : Int32))]))
  refine OGets.step (fun _ => XS.iconst X0.here hx rfl (hb hby dm3_16)) ?_
  show OGets p e below _ (s₁.setTop (mkF m 17 #[.val (.int (3 : Int32)), .val (.int (0 : Int32)), .unset, .unset, .unset] [(.int (4 : Int32)), (.int (3 : Int32))]))
  refine OGets.step (fun _ => XS.icmpNo X0.here hx rfl (hb hby dm3_17) rfl (feq (by decide : ¬ ((3 : Int32) = (4 : Int32)))).1) ?_
  show OGets p e below _ (s₁.setTop (mkF m 20 #[.val (.int (3 : Int32)), .val (.int (0 : Int32)), .unset, .unset, .unset] []))
  refine OGets.step (fun _ => XS.iloadN X0.here hx rfl (hb hby dm3_20) rfl) ?_
  show OGets p e below _ (s₁.setTop (mkF m 21 #[.val (.int (3 : Int32)), .val (.int (0 : Int32)), .unset, .unset, .unset] [(.int (3 : Int32))]))
  refine OGets.step (fun _ => XS.iconst X0.here hx rfl (hb hby dm3_21)) ?_
  show OGets p e below _ (s₁.setTop (mkF m 22 #[.val (.int (3 : Int32)), .val (.int (0 : Int32)), .unset, .unset, .unset] [(.int (5 : Int32)), (.int (3 : Int32))]))
  refine OGets.step (fun _ => XS.icmpYes X0.here hx rfl (pc0 := 22) (pc' := 29) rfl (hb hby dm3_22) rfl (feq (by decide : ¬ ((3 : Int32) = (5 : Int32)))).2 (by decide) (by decide)) ?_
  show OGets p e below _ (s₁.setTop (mkF m 29 #[.val (.int (3 : Int32)), .val (.int (0 : Int32)), .unset, .unset, .unset] []))
  refine OGets.step (fun _ => XS.iconst X0.here hx rfl (hb hby dm3_29)) ?_
  show OGets p e below _ (s₁.setTop (mkF m 30 #[.val (.int (3 : Int32)), .val (.int (0 : Int32)), .unset, .unset, .unset] [(.int (0 : Int32))]))
  refine OGets.step (fun _ => XS.istoreN X0.here hx rfl (hb hby dm3_30) rfl (l' := #[.val (.int (3 : Int32)), .val (.int (0 : Int32)), .val (.int (0 : Int32)), .unset, .unset]) rfl) ?_
  show OGets p e below _ (s₁.setTop (mkF m 31 #[.val (.int (3 : Int32)), .val (.int (0 : Int32)), .val (.int (0 : Int32)), .unset, .unset] []))
  refine OGets.step (fun _ => XS.iloadN X0.here hx rfl (hb hby dm3_31) rfl) ?_
  show OGets p e below _ (s₁.setTop (mkF m 32 #[.val (.int (3 : Int32)), .val (.int (0 : Int32)), .val (.int (0 : Int32)), .unset, .unset] [(.int (3 : Int32))]))
  refine OGets.step (fun _ => XS.bipush X0.here hx rfl (hb hby dm3_32)) ?_
  show OGets p e below _ (s₁.setTop (mkF m 34 #[.val (.int (3 : Int32)), .val (.int (0 : Int32)), .val (.int (0 : Int32)), .unset, .unset] [(.int (6 : Int32)), (.int (3 : Int32))]))
  refine OGets.step (fun _ => XS.icmpNo X0.here hx rfl (hb hby dm3_34) rfl (feq (by decide : ¬ ((3 : Int32) = (6 : Int32)))).1) ?_
  show OGets p e below _ (s₁.setTop (mkF m 37 #[.val (.int (3 : Int32)), .val (.int (0 : Int32)), .val (.int (0 : Int32)), .unset, .unset] []))
  refine OGets.step (fun _ => XS.iloadN X0.here hx rfl (hb hby dm3_37) rfl) ?_
  show OGets p e below _ (s₁.setTop (mkF m 38 #[.val (.int (3 : Int32)), .val (.int (0 : Int32)), .val (.int (0 : Int32)), .unset, .unset] [(.int (3 : Int32))]))
  refine OGets.step (fun _ => XS.bipush X0.here hx rfl (hb hby dm3_38)) ?_
  show OGets p e below _ (s₁.setTop (mkF m 40 #[.val (.int (3 : Int32)), .val (.int (0 : Int32)), .val (.int (0 : Int32)), .unset, .unset] [(.int (7 : Int32)), (.int (3 : Int32))]))
  refine OGets.step (fun _ => XS.icmpYes X0.here hx rfl (pc0 := 40) (pc' := 47) rfl (hb hby dm3_40) rfl (feq (by decide : ¬ ((3 : Int32) = (7 : Int32)))).2 (by decide) (by decide)) ?_
  show OGets p e below _ (s₁.setTop (mkF m 47 #[.val (.int (3 : Int32)), .val (.int (0 : Int32)), .val (.int (0 : Int32)), .unset, .unset] []))
  refine OGets.step (fun _ => XS.iconst X0.here hx rfl (hb hby dm3_47)) ?_
  show OGets p e below _ (s₁.setTop (mkF m 48 #[.val (.int (3 : Int32)), .val (.int (0 : Int32)), .val (.int (0 : Int32)), .unset, .unset] [(.int (0 : Int32))]))
  refine OGets.step (fun _ => XS.istoreN X0.here hx rfl (hb hby dm3_48) rfl (l' := #[.val (.int (3 : Int32)), .val (.int (0 : Int32)), .val (.int (0 : Int32)), .val (.int (0 : Int32)), .unset]) rfl) ?_
  show OGets p e below _ (s₁.setTop (mkF m 49 #[.val (.int (3 : Int32)), .val (.int (0 : Int32)), .val (.int (0 : Int32)), .val (.int (0 : Int32)), .unset] []))
  refine OGets.step (fun _ => XS.iloadN X0.here hx rfl (hb hby dm3_49) rfl) ?_
  show OGets p e below _ (s₁.setTop (mkF m 50 #[.val (.int (3 : Int32)), .val (.int (0 : Int32)), .val (.int (0 : Int32)), .val (.int (0 : Int32)), .unset] [(.int (3 : Int32))]))
  refine OGets.step (fun _ => XS.bipush X0.here hx rfl (hb hby dm3_50)) ?_
  show OGets p e below _ (s₁.setTop (mkF m 52 #[.val (.int (3 : Int32)), .val (.int (0 : Int32)), .val (.int (0 : Int32)), .val (.int (0 : Int32)), .unset] [(.int (10 : Int32)), (.int (3 : Int32))]))
  refine OGets.step (fun _ => XS.icmpNo X0.here hx rfl (hb hby dm3_52) rfl (feq (by decide : ¬ ((3 : Int32) = (10 : Int32)))).1) ?_
  show OGets p e below _ (s₁.setTop (mkF m 55 #[.val (.int (3 : Int32)), .val (.int (0 : Int32)), .val (.int (0 : Int32)), .val (.int (0 : Int32)), .unset] []))
  refine OGets.step (fun _ => XS.iloadN X0.here hx rfl (hb hby dm3_55) rfl) ?_
  show OGets p e below _ (s₁.setTop (mkF m 56 #[.val (.int (3 : Int32)), .val (.int (0 : Int32)), .val (.int (0 : Int32)), .val (.int (0 : Int32)), .unset] [(.int (3 : Int32))]))
  refine OGets.step (fun _ => XS.bipush X0.here hx rfl (hb hby dm3_56)) ?_
  show OGets p e below _ (s₁.setTop (mkF m 58 #[.val (.int (3 : Int32)), .val (.int (0 : Int32)), .val (.int (0 : Int32)), .val (.int (0 : Int32)), .unset] [(.int (11 : Int32)), (.int (3 : Int32))]))
  refine OGets.step (fun _ => XS.icmpYes X0.here hx rfl (pc0 := 58) (pc' := 65) rfl (hb hby dm3_58) rfl (feq (by decide : ¬ ((3 : Int32) = (11 : Int32)))).2 (by decide) (by decide)) ?_
  show OGets p e below _ (s₁.setTop (mkF m 65 #[.val (.int (3 : Int32)), .val (.int (0 : Int32)), .val (.int (0 : Int32)), .val (.int (0 : Int32)), .unset] []))
  refine OGets.step (fun _ => XS.iconst X0.here hx rfl (hb hby dm3_65)) ?_
  show OGets p e below _ (s₁.setTop (mkF m 66 #[.val (.int (3 : Int32)), .val (.int (0 : Int32)), .val (.int (0 : Int32)), .val (.int (0 : Int32)), .unset] [(.int (0 : Int32))]))
  refine OGets.step (fun _ => XS.istore X0.here hx rfl (hb hby dm3_66) rfl (l' := #[.val (.int (3 : Int32)), .val (.int (0 : Int32)), .val (.int (0 : Int32)), .val (.int (0 : Int32)), .val (.int (0 : Int32))]) rfl) ?_
  show OGets p e below _ (s₁.setTop (mkF m 68 #[.val (.int (3 : Int32)), .val (.int (0 : Int32)), .val (.int (0 : Int32)), .val (.int (0 : Int32)), .val (.int (0 : Int32))] []))
  refine OGets.step (fun _ => XS.iloadN X0.here hx rfl (hb hby dm3_68) rfl) ?_
  show OGets p e below _ (s₁.setTop (mkF m 69 #[.val (.int (3 : Int32)), .val (.int (0 : Int32)), .val (.int (0 : Int32)), .val (.int (0 : Int32)), .val (.int (0 : Int32))] [(.int (0 : Int32))]))
  refine OGets.step (fun _ => XS.ifNo X0.here hx rfl (hb hby dm3_69) rfl ((if0 _ _).trans (teq (by decide : (0 : Int32) = (0 : Int32))).2)) ?_
  show OGets p e below _ (s₁.setTop (mkF m 72 #[.val (.int (3 : Int32)), .val (.int (0 : Int32)), .val (.int (0 : Int32)), .val (.int (0 : Int32)), .val (.int (0 : Int32))] []))
  refine OGets.step (fun _ => XS.iloadN X0.here hx rfl (hb hby dm3_72) rfl) ?_
  show OGets p e below _ (s₁.setTop (mkF m 73 #[.val (.int (3 : Int32)), .val (.int (0 : Int32)), .val (.int (0 : Int32)), .val (.int (0 : Int32)), .val (.int (0 : Int32))] [(.int (0 : Int32))]))
  refine OGets.step (fun _ => XS.ifNo X0.here hx rfl (hb hby dm3_73) rfl ((if0 _ _).trans (teq (by decide : (0 : Int32) = (0 : Int32))).2)) ?_
  show OGets p e below _ (s₁.setTop (mkF m 76 #[.val (.int (3 : Int32)), .val (.int (0 : Int32)), .val (.int (0 : Int32)), .val (.int (0 : Int32)), .val (.int (0 : Int32))] []))
  refine OGets.step (fun _ => XS.iloadN X0.here hx rfl (hb hby dm3_76) rfl) ?_
  show OGets p e below _ (s₁.setTop (mkF m 77 #[.val (.int (3 : Int32)), .val (.int (0 : Int32)), .val (.int (0 : Int32)), .val (.int (0 : Int32)), .val (.int (0 : Int32))] [(.int (0 : Int32))]))
  refine OGets.step (fun _ => XS.ifNo X0.here hx rfl (hb hby dm3_77) rfl ((if0 _ _).trans (teq (by decide : (0 : Int32) = (0 : Int32))).2)) ?_
  show OGets p e below _ (s₁.setTop (mkF m 80 #[.val (.int (3 : Int32)), .val (.int (0 : Int32)), .val (.int (0 : Int32)), .val (.int (0 : Int32)), .val (.int (0 : Int32))] []))
  refine OGets.step (fun _ => XS.iload X0.here hx rfl (hb hby dm3_80) rfl) ?_
  show OGets p e below _ (s₁.setTop (mkF m 82 #[.val (.int (3 : Int32)), .val (.int (0 : Int32)), .val (.int (0 : Int32)), .val (.int (0 : Int32)), .val (.int (0 : Int32))] [(.int (0 : Int32))]))
  refine OGets.step (fun _ => XS.ifYes X0.here hx rfl (pc0 := 82) (pc' := 89) rfl (hb hby dm3_82) rfl ((if0 _ _).trans (teq (by decide : (0 : Int32) = (0 : Int32))).1) (by decide) (by decide)) ?_
  show OGets p e below _ (s₁.setTop (mkF m 89 #[.val (.int (3 : Int32)), .val (.int (0 : Int32)), .val (.int (0 : Int32)), .val (.int (0 : Int32)), .val (.int (0 : Int32))] []))
  refine OGets.step (fun _ => XS.iconst X0.here hx rfl (hb hby dm3_89)) ?_
  show OGets p e below _ (s₁.setTop (mkF m 90 #[.val (.int (3 : Int32)), .val (.int (0 : Int32)), .val (.int (0 : Int32)), .val (.int (0 : Int32)), .val (.int (0 : Int32))] [(.int (0 : Int32))]))
  refine OGets.retN X0 hx hlk (t := .boolean) Bd.returns (by simp) (hb hby dm3_90) (Nat.le_of_ble_eq_true rfl) (Nat.le_of_ble_eq_true rfl) ?_
  exact ⟨rfl, rfl, e0⟩
theorem dm2_35 : decode method_2_code 35 = .ok (.iload_n 0, 1) := by decide +kernel
theorem dm2_36 : decode method_2_code 36 = .ok (.iconst 4, 1) := by decide +kernel
theorem dm2_37 : decode method_2_code 37 = .ok (.if_icmp .ne 7, 3) := by decide +kernel
theorem dm2_40 : decode method_2_code 40 = .ok (.getstatic 22, 3) := by decide +kernel
theorem dm2_43 : decode method_2_code 43 = .ok (.areturn, 1) := by decide +kernel
theorem ef_pk4 (m : MethodId) (x0 : Int32) : entryFrame m #[(.int x0)] 1 = mkF m 0 #[.val (.int x0)] [] := by first | (simp [entryFrame, mkF, argsToLocals, Value.category]; done) | rfl
def Q_pk4 (Z : State) (A : Nat → Addr) (h0 : Heap) (n0 : Nat) (v : Option Value) (h : Heap) (L : List Loc) : Prop := v = some (.ref (A 4)) ∧ L = [] ∧ h = h0
set_option maxRecDepth 65536 in
set_option maxHeartbeats 40000000 in
theorem rm_pk4 (l : Launch) (Z : State) (a0 : Array Value) (hw : ∀ d ∈ tables_1, d.before a0 Z = true) (ws : List Jvm.Cond) (A : Nat → Addr) (h0 : Heap) (n0 : Nat) (Z0 : n0 ≤ h0.size) (hS : ∀ i, i < 13 → Sta Z h0 "com/example/pelt/pelt/Axis" (nmOf i) "Lcom/example/pelt/pelt/Axis;" (.ref (A i))) (hI : ∀ i j, i < 13 → j < 13 → A i = A j → i = j) :
    MetFree l (⟨"com/example/pelt/pelt/AxisListsOverlapPinLaw", "pick", "(I)Lcom/example/pelt/pelt/Axis;"⟩ : MethodName) (head1 (Jvm.Cond.code (⟨"com/example/pelt/pelt/AxisListsOverlapPinLaw", "pick", "(I)Lcom/example/pelt/pelt/Axis;"⟩ : MethodName) method_2_code 1 (some (.object "com/example/pelt/pelt/Axis")) :: ws) ({ frames := 0, cells := 0, slots := 0, locals := 0 } : Room)) (fun a_ U => a_ = #[(.int (4 : Int32))] ∧ Z.Warmed39 U.vm ∧ U.heap = h0) (fun _ _ _ _ _ => True) (fun _ U o U' => ∃ v L, o = .returned v ∧ Q_pk4 Z A h0 n0 v U'.heap L ∧ FrameEnd U o U' L ({ frames := 0, cells := 0, slots := 0, locals := 0 } : Room).cells ({ frames := 0, cells := 0, slots := 0, locals := 0 } : Room).slots) := by
  refine MetFree.of_bodySF (plainFor_of_name pn_0) hisR ?_
  intro p e s m args below meth c s₁ Bd hml0 hP hK
  obtain ⟨rfl, hZ, hh⟩ := hP
  have hx := Bd.exec
  have hby := Bd.bytes
  have hlk : meth.locks = false := Bd.notSynchronized
  have hml : c.maxLocals = 1 := hml0
  have hown : s.vm.findClass "com/example/pelt/pelt/AxisListsOverlapPinLaw" = some m.cls := findClass_of_methodNamed Bd.named
  have hnm := (name_of_methodNamed Bd.named Bd.method).1
  have X0 : Stand p l e ({ frames := 0, cells := 0, slots := 0, locals := 0 } : Room) s m #[(.int (4 : Int32))] below meth c s₁ [] 0 0 := Stand.of_body Bd
  have e0 : s₁.heap = h0 := by rw [← hh, Bd.state]; rfl
  have N0 := Fr.nil n0
  show OGets p e below (OLeaves s (Q_pk4 Z A h0 n0 ) ({ frames := 0, cells := 0, slots := 0, locals := 0 } : Room).cells ({ frames := 0, cells := 0, slots := 0, locals := 0 } : Room).slots) _
  refine OGets.enter (ef_pk4 m (4 : Int32)) ?_
  show OGets p e below _ (s₁.setTop (mkF m 0 #[.val (.int (4 : Int32))] []))
  refine OGets.step (fun _ => XS.iloadN X0.here hx rfl (hb hby dm2_0) rfl) ?_
  show OGets p e below _ (s₁.setTop (mkF m 1 #[.val (.int (4 : Int32))] [(.int (4 : Int32))]))
  refine OGets.step (fun _ => XS.ifYes X0.here hx rfl (pc0 := 1) (pc' := 8) rfl (hb hby dm2_1) rfl ((if0 _ _).trans (feq (by decide : ¬ ((4 : Int32) = (0 : Int32)))).2) (by decide) (by decide)) ?_
  show OGets p e below _ (s₁.setTop (mkF m 8 #[.val (.int (4 : Int32))] []))
  refine OGets.step (fun _ => XS.iloadN X0.here hx rfl (hb hby dm2_8) rfl) ?_
  show OGets p e below _ (s₁.setTop (mkF m 9 #[.val (.int (4 : Int32))] [(.int (4 : Int32))]))
  refine OGets.step (fun _ => XS.iconst X0.here hx rfl (hb hby dm2_9)) ?_
  show OGets p e below _ (s₁.setTop (mkF m 10 #[.val (.int (4 : Int32))] [(.int (1 : Int32)), (.int (4 : Int32))]))
  refine OGets.step (fun _ => XS.icmpYes X0.here hx rfl (pc0 := 10) (pc' := 17) rfl (hb hby dm2_10) rfl (feq (by decide : ¬ ((4 : Int32) = (1 : Int32)))).2 (by decide) (by decide)) ?_
  show OGets p e below _ (s₁.setTop (mkF m 17 #[.val (.int (4 : Int32))] []))
  refine OGets.step (fun _ => XS.iloadN X0.here hx rfl (hb hby dm2_17) rfl) ?_
  show OGets p e below _ (s₁.setTop (mkF m 18 #[.val (.int (4 : Int32))] [(.int (4 : Int32))]))
  refine OGets.step (fun _ => XS.iconst X0.here hx rfl (hb hby dm2_18)) ?_
  show OGets p e below _ (s₁.setTop (mkF m 19 #[.val (.int (4 : Int32))] [(.int (2 : Int32)), (.int (4 : Int32))]))
  refine OGets.step (fun _ => XS.icmpYes X0.here hx rfl (pc0 := 19) (pc' := 26) rfl (hb hby dm2_19) rfl (feq (by decide : ¬ ((4 : Int32) = (2 : Int32)))).2 (by decide) (by decide)) ?_
  show OGets p e below _ (s₁.setTop (mkF m 26 #[.val (.int (4 : Int32))] []))
  refine OGets.step (fun _ => XS.iloadN X0.here hx rfl (hb hby dm2_26) rfl) ?_
  show OGets p e below _ (s₁.setTop (mkF m 27 #[.val (.int (4 : Int32))] [(.int (4 : Int32))]))
  refine OGets.step (fun _ => XS.iconst X0.here hx rfl (hb hby dm2_27)) ?_
  show OGets p e below _ (s₁.setTop (mkF m 28 #[.val (.int (4 : Int32))] [(.int (3 : Int32)), (.int (4 : Int32))]))
  refine OGets.step (fun _ => XS.icmpYes X0.here hx rfl (pc0 := 28) (pc' := 35) rfl (hb hby dm2_28) rfl (feq (by decide : ¬ ((4 : Int32) = (3 : Int32)))).2 (by decide) (by decide)) ?_
  show OGets p e below _ (s₁.setTop (mkF m 35 #[.val (.int (4 : Int32))] []))
  refine OGets.step (fun _ => XS.iloadN X0.here hx rfl (hb hby dm2_35) rfl) ?_
  show OGets p e below _ (s₁.setTop (mkF m 36 #[.val (.int (4 : Int32))] [(.int (4 : Int32))]))
  refine OGets.step (fun _ => XS.iconst X0.here hx rfl (hb hby dm2_36)) ?_
  show OGets p e below _ (s₁.setTop (mkF m 37 #[.val (.int (4 : Int32))] [(.int (4 : Int32)), (.int (4 : Int32))]))
  refine OGets.step (fun _ => XS.icmpNo X0.here hx rfl (hb hby dm2_37) rfl (teq (by decide : (4 : Int32) = (4 : Int32))).2) ?_
  show OGets p e below _ (s₁.setTop (mkF m 40 #[.val (.int (4 : Int32))] []))
  obtain ⟨T85, X85, e85, st85⟩ := getS2 X0 hx hZ hown (host := "") (Or.inl (hw _ (List.mem_of_getElem? (i := 74) rfl))) Via.refl e0 (show Sta Z h0 "com/example/pelt/pelt/Axis" "DESCENDANT" "Lcom/example/pelt/pelt/Axis;" (.ref (A 4)) from hS 4 (by decide)) (g := (mkF m 40 #[.val (.int (4 : Int32))] [])) rfl (hb hby dm2_40)
  refine OGets.step st85 ?_
  show OGets p e below _ (T85.setTop (mkF m 43 #[.val (.int (4 : Int32))] [(.ref (A 4))]))
  refine OGets.retA X85 hx hlk (t := (.object "com/example/pelt/pelt/Axis")) Bd.returns rfl rfl rfl (hb hby dm2_43) (Nat.le_of_ble_eq_true rfl) (Nat.le_of_ble_eq_true rfl) ?_
  exact ⟨rfl, rfl, e85⟩
theorem ef_lo4 (m : MethodId) (x0 : Addr) : entryFrame m #[(.ref x0)] 1 = mkF m 0 #[.val (.ref x0)] [] := by first | (simp [entryFrame, mkF, argsToLocals, Value.category]; done) | rfl
def Q_lo4 (Z : State) (A : Nat → Addr) (h0 : Heap) (n0 : Nat) (v : Option Value) (h : Heap) (L : List Loc) : Prop := v = some (.int (1 : Int32)) ∧ L = [] ∧ h = h0
set_option maxRecDepth 65536 in
set_option maxHeartbeats 40000000 in
theorem rm_lo4 (l : Launch) (Z : State) (a0 : Array Value) (hw : ∀ d ∈ tables_1, d.before a0 Z = true) (ws : List Jvm.Cond) (A : Nat → Addr) (h0 : Heap) (n0 : Nat) (Z0 : n0 ≤ h0.size) (hS : ∀ i, i < 13 → Sta Z h0 "com/example/pelt/pelt/Axis" (nmOf i) "Lcom/example/pelt/pelt/Axis;" (.ref (A i))) (hI : ∀ i j, i < 13 → j < 13 → A i = A j → i = j) :
    MetFree l (⟨"com/example/pelt/pelt/Axis", "listsOverlap", "()Z"⟩ : MethodName) (head1 (Jvm.Cond.code (⟨"com/example/pelt/pelt/Axis", "listsOverlap", "()Z"⟩ : MethodName) prog_3_method_15_code 1 (some .boolean) :: ws) ({ frames := 0, cells := 0, slots := 0, locals := 0 } : Room)) (fun a_ U => a_ = #[(.ref (A 4))] ∧ Z.Warmed39 U.vm ∧ U.heap = h0) (fun _ _ _ _ _ => True) (fun _ U o U' => ∃ v L, o = .returned v ∧ Q_lo4 Z A h0 n0 v U'.heap L ∧ FrameEnd U o U' L ({ frames := 0, cells := 0, slots := 0, locals := 0 } : Room).cells ({ frames := 0, cells := 0, slots := 0, locals := 0 } : Room).slots) := by
  refine MetFree.of_bodySF (plainFor_of_name pn_1) hisR ?_
  intro p e s m args below meth c s₁ Bd hml0 hP hK
  obtain ⟨rfl, hZ, hh⟩ := hP
  have hx := Bd.exec
  have hby := Bd.bytes
  have hlk : meth.locks = false := Bd.notSynchronized
  have hml : c.maxLocals = 1 := hml0
  have hown : s.vm.findClass "com/example/pelt/pelt/Axis" = some m.cls := findClass_of_methodNamed Bd.named
  have hnm := (name_of_methodNamed Bd.named Bd.method).1
  have X0 : Stand p l e ({ frames := 0, cells := 0, slots := 0, locals := 0 } : Room) s m #[(.ref (A 4))] below meth c s₁ [] 0 0 := Stand.of_body Bd
  have e0 : s₁.heap = h0 := by rw [← hh, Bd.state]; rfl
  have N0 := Fr.nil n0
  show OGets p e below (OLeaves s (Q_lo4 Z A h0 n0 ) ({ frames := 0, cells := 0, slots := 0, locals := 0 } : Room).cells ({ frames := 0, cells := 0, slots := 0, locals := 0 } : Room).slots) _
  refine OGets.enter (ef_lo4 m (A 4)) ?_
  show OGets p e below _ (s₁.setTop (mkF m 0 #[.val (.ref (A 4))] []))
  refine OGets.step (fun _ => XS.aloadN X0.here hx rfl (hb hby d3m15_0) rfl rfl) ?_
  show OGets p e below _ (s₁.setTop (mkF m 1 #[.val (.ref (A 4))] [(.ref (A 4))]))
  obtain ⟨T86, X86, e86, st86⟩ := getS2 X0 hx hZ hown (host := "") (Or.inl (hw _ (List.mem_of_getElem? (i := 13) rfl))) Via.refl e0 (show Sta Z h0 "com/example/pelt/pelt/Axis" "CHILD" "Lcom/example/pelt/pelt/Axis;" (.ref (A 3)) from hS 3 (by decide)) (g := (mkF m 1 #[.val (.ref (A 4))] [(.ref (A 4))])) rfl (hb hby d3m15_1)
  refine OGets.step st86 ?_
  show OGets p e below _ (T86.setTop (mkF m 4 #[.val (.ref (A 4))] [(.ref (A 3)), (.ref (A 4))]))
  refine OGets.step (fun _ => Jvm.RoadKit.acmp (g := (mkF m 4 #[.val (.ref (A 4))] [(.ref (A 3)), (.ref (A 4))])) X86 hx rfl rfl rfl (pc0 := 4) (pc' := 7) (same := false) rfl (hb hby d3m15_4) rfl (decide_eq_false fun q => absurd (hI 4 3 (by decide) (by decide) (Value.ref.inj q)) (by decide)) (by decide) (by decide)) ?_
  show OGets p e below _ (T86.setTop (mkF m 7 #[.val (.ref (A 4))] []))
  refine OGets.step (fun _ => XS.aloadN X86.here hx rfl (hb hby d3m15_7) rfl rfl) ?_
  show OGets p e below _ (T86.setTop (mkF m 8 #[.val (.ref (A 4))] [(.ref (A 4))]))
  obtain ⟨T87, X87, e87, st87⟩ := getS2 X86 hx hZ hown (host := "") (Or.inl (hw _ (List.mem_of_getElem? (i := 15) rfl))) Via.refl e86 (show Sta Z h0 "com/example/pelt/pelt/Axis" "ATTRIBUTE" "Lcom/example/pelt/pelt/Axis;" (.ref (A 2)) from hS 2 (by decide)) (g := (mkF m 8 #[.val (.ref (A 4))] [(.ref (A 4))])) rfl (hb hby d3m15_8)
  refine OGets.step st87 ?_
  show OGets p e below _ (T87.setTop (mkF m 11 #[.val (.ref (A 4))] [(.ref (A 2)), (.ref (A 4))]))
  refine OGets.step (fun _ => Jvm.RoadKit.acmp (g := (mkF m 11 #[.val (.ref (A 4))] [(.ref (A 2)), (.ref (A 4))])) X87 hx rfl rfl rfl (pc0 := 11) (pc' := 14) (same := false) rfl (hb hby d3m15_11) rfl (decide_eq_false fun q => absurd (hI 4 2 (by decide) (by decide) (Value.ref.inj q)) (by decide)) (by decide) (by decide)) ?_
  show OGets p e below _ (T87.setTop (mkF m 14 #[.val (.ref (A 4))] []))
  refine OGets.step (fun _ => XS.aloadN X87.here hx rfl (hb hby d3m15_14) rfl rfl) ?_
  show OGets p e below _ (T87.setTop (mkF m 15 #[.val (.ref (A 4))] [(.ref (A 4))]))
  obtain ⟨T88, X88, e88, st88⟩ := getS2 X87 hx hZ hown (host := "") (Or.inl (hw _ (List.mem_of_getElem? (i := 17) rfl))) Via.refl e87 (show Sta Z h0 "com/example/pelt/pelt/Axis" "NAMESPACE" "Lcom/example/pelt/pelt/Axis;" (.ref (A 8)) from hS 8 (by decide)) (g := (mkF m 15 #[.val (.ref (A 4))] [(.ref (A 4))])) rfl (hb hby d3m15_15)
  refine OGets.step st88 ?_
  show OGets p e below _ (T88.setTop (mkF m 18 #[.val (.ref (A 4))] [(.ref (A 8)), (.ref (A 4))]))
  refine OGets.step (fun _ => Jvm.RoadKit.acmp (g := (mkF m 18 #[.val (.ref (A 4))] [(.ref (A 8)), (.ref (A 4))])) X88 hx rfl rfl rfl (pc0 := 18) (pc' := 21) (same := false) rfl (hb hby d3m15_18) rfl (decide_eq_false fun q => absurd (hI 4 8 (by decide) (by decide) (Value.ref.inj q)) (by decide)) (by decide) (by decide)) ?_
  show OGets p e below _ (T88.setTop (mkF m 21 #[.val (.ref (A 4))] []))
  refine OGets.step (fun _ => XS.aloadN X88.here hx rfl (hb hby d3m15_21) rfl rfl) ?_
  show OGets p e below _ (T88.setTop (mkF m 22 #[.val (.ref (A 4))] [(.ref (A 4))]))
  obtain ⟨T89, X89, e89, st89⟩ := getS2 X88 hx hZ hown (host := "") (Or.inl (hw _ (List.mem_of_getElem? (i := 19) rfl))) Via.refl e88 (show Sta Z h0 "com/example/pelt/pelt/Axis" "PARENT" "Lcom/example/pelt/pelt/Axis;" (.ref (A 9)) from hS 9 (by decide)) (g := (mkF m 22 #[.val (.ref (A 4))] [(.ref (A 4))])) rfl (hb hby d3m15_22)
  refine OGets.step st89 ?_
  show OGets p e below _ (T89.setTop (mkF m 25 #[.val (.ref (A 4))] [(.ref (A 9)), (.ref (A 4))]))
  refine OGets.step (fun _ => Jvm.RoadKit.acmp (g := (mkF m 25 #[.val (.ref (A 4))] [(.ref (A 9)), (.ref (A 4))])) X89 hx rfl rfl rfl (pc0 := 25) (pc' := 28) (same := false) rfl (hb hby d3m15_25) rfl (decide_eq_false fun q => absurd (hI 4 9 (by decide) (by decide) (Value.ref.inj q)) (by decide)) (by decide) (by decide)) ?_
  show OGets p e below _ (T89.setTop (mkF m 28 #[.val (.ref (A 4))] []))
  refine OGets.step (fun _ => XS.aloadN X89.here hx rfl (hb hby d3m15_28) rfl rfl) ?_
  show OGets p e below _ (T89.setTop (mkF m 29 #[.val (.ref (A 4))] [(.ref (A 4))]))
  obtain ⟨T90, X90, e90, st90⟩ := getS2 X89 hx hZ hown (host := "") (Or.inl (hw _ (List.mem_of_getElem? (i := 21) rfl))) Via.refl e89 (show Sta Z h0 "com/example/pelt/pelt/Axis" "SELF" "Lcom/example/pelt/pelt/Axis;" (.ref (A 12)) from hS 12 (by decide)) (g := (mkF m 29 #[.val (.ref (A 4))] [(.ref (A 4))])) rfl (hb hby d3m15_29)
  refine OGets.step st90 ?_
  show OGets p e below _ (T90.setTop (mkF m 32 #[.val (.ref (A 4))] [(.ref (A 12)), (.ref (A 4))]))
  refine OGets.step (fun _ => Jvm.RoadKit.acmp (g := (mkF m 32 #[.val (.ref (A 4))] [(.ref (A 12)), (.ref (A 4))])) X90 hx rfl rfl rfl (pc0 := 32) (pc' := 35) (same := false) rfl (hb hby d3m15_32) rfl (decide_eq_false fun q => absurd (hI 4 12 (by decide) (by decide) (Value.ref.inj q)) (by decide)) (by decide) (by decide)) ?_
  show OGets p e below _ (T90.setTop (mkF m 35 #[.val (.ref (A 4))] []))
  refine OGets.step (fun _ => XS.iconst X90.here hx rfl (hb hby d3m15_35)) ?_
  show OGets p e below _ (T90.setTop (mkF m 36 #[.val (.ref (A 4))] [(.int (1 : Int32))]))
  refine OGets.step (fun _ => XS.goto X90.here hx rfl (pc0 := 36) (pc' := 40) rfl (hb hby d3m15_36) (by decide) (by decide)) ?_
  show OGets p e below _ (T90.setTop (mkF m 40 #[.val (.ref (A 4))] [(.int (1 : Int32))]))
  refine OGets.retN X90 hx hlk (t := .boolean) Bd.returns (by simp) (hb hby d3m15_40) (Nat.le_of_ble_eq_true rfl) (Nat.le_of_ble_eq_true rfl) ?_
  exact ⟨rfl, rfl, e90⟩
theorem ef_rv4 (m : MethodId) (x0 : Addr) : entryFrame m #[(.ref x0)] 1 = mkF m 0 #[.val (.ref x0)] [] := by first | (simp [entryFrame, mkF, argsToLocals, Value.category]; done) | rfl
def Q_rv4 (Z : State) (A : Nat → Addr) (h0 : Heap) (n0 : Nat) (v : Option Value) (h : Heap) (L : List Loc) : Prop := v = some (.int (0 : Int32)) ∧ L = [] ∧ h = h0
set_option maxRecDepth 65536 in
set_option maxHeartbeats 40000000 in
theorem rm_rv4 (l : Launch) (Z : State) (a0 : Array Value) (hw : ∀ d ∈ tables_1, d.before a0 Z = true) (ws : List Jvm.Cond) (A : Nat → Addr) (h0 : Heap) (n0 : Nat) (Z0 : n0 ≤ h0.size) (hS : ∀ i, i < 13 → Sta Z h0 "com/example/pelt/pelt/Axis" (nmOf i) "Lcom/example/pelt/pelt/Axis;" (.ref (A i))) (hI : ∀ i j, i < 13 → j < 13 → A i = A j → i = j) :
    MetFree l (⟨"com/example/pelt/pelt/Axis", "isReverse", "()Z"⟩ : MethodName) (head1 (Jvm.Cond.code (⟨"com/example/pelt/pelt/Axis", "isReverse", "()Z"⟩ : MethodName) prog_3_method_6_code 1 (some .boolean) :: ws) ({ frames := 0, cells := 0, slots := 0, locals := 0 } : Room)) (fun a_ U => a_ = #[(.ref (A 4))] ∧ Z.Warmed39 U.vm ∧ U.heap = h0) (fun _ _ _ _ _ => True) (fun _ U o U' => ∃ v L, o = .returned v ∧ Q_rv4 Z A h0 n0 v U'.heap L ∧ FrameEnd U o U' L ({ frames := 0, cells := 0, slots := 0, locals := 0 } : Room).cells ({ frames := 0, cells := 0, slots := 0, locals := 0 } : Room).slots) := by
  refine MetFree.of_bodySF (plainFor_of_name pn_1) hisR ?_
  intro p e s m args below meth c s₁ Bd hml0 hP hK
  obtain ⟨rfl, hZ, hh⟩ := hP
  have hx := Bd.exec
  have hby := Bd.bytes
  have hlk : meth.locks = false := Bd.notSynchronized
  have hml : c.maxLocals = 1 := hml0
  have hown : s.vm.findClass "com/example/pelt/pelt/Axis" = some m.cls := findClass_of_methodNamed Bd.named
  have hnm := (name_of_methodNamed Bd.named Bd.method).1
  have X0 : Stand p l e ({ frames := 0, cells := 0, slots := 0, locals := 0 } : Room) s m #[(.ref (A 4))] below meth c s₁ [] 0 0 := Stand.of_body Bd
  have e0 : s₁.heap = h0 := by rw [← hh, Bd.state]; rfl
  have N0 := Fr.nil n0
  show OGets p e below (OLeaves s (Q_rv4 Z A h0 n0 ) ({ frames := 0, cells := 0, slots := 0, locals := 0 } : Room).cells ({ frames := 0, cells := 0, slots := 0, locals := 0 } : Room).slots) _
  refine OGets.enter (ef_rv4 m (A 4)) ?_
  show OGets p e below _ (s₁.setTop (mkF m 0 #[.val (.ref (A 4))] []))
  refine OGets.step (fun _ => XS.aloadN X0.here hx rfl (hb hby d3m6_0) rfl rfl) ?_
  show OGets p e below _ (s₁.setTop (mkF m 1 #[.val (.ref (A 4))] [(.ref (A 4))]))
  obtain ⟨T91, X91, e91, st91⟩ := getS2 X0 hx hZ hown (host := "") (Or.inl (hw _ (List.mem_of_getElem? (i := 28) rfl))) Via.refl e0 (show Sta Z h0 "com/example/pelt/pelt/Axis" "ANCESTOR" "Lcom/example/pelt/pelt/Axis;" (.ref (A 0)) from hS 0 (by decide)) (g := (mkF m 1 #[.val (.ref (A 4))] [(.ref (A 4))])) rfl (hb hby d3m6_1)
  refine OGets.step st91 ?_
  show OGets p e below _ (T91.setTop (mkF m 4 #[.val (.ref (A 4))] [(.ref (A 0)), (.ref (A 4))]))
  refine OGets.step (fun _ => Jvm.RoadKit.acmp (g := (mkF m 4 #[.val (.ref (A 4))] [(.ref (A 0)), (.ref (A 4))])) X91 hx rfl rfl rfl (pc0 := 4) (pc' := 7) (same := false) rfl (hb hby d3m6_4) rfl (decide_eq_false fun q => absurd (hI 4 0 (by decide) (by decide) (Value.ref.inj q)) (by decide)) (by decide) (by decide)) ?_
  show OGets p e below _ (T91.setTop (mkF m 7 #[.val (.ref (A 4))] []))
  refine OGets.step (fun _ => XS.aloadN X91.here hx rfl (hb hby d3m6_7) rfl rfl) ?_
  show OGets p e below _ (T91.setTop (mkF m 8 #[.val (.ref (A 4))] [(.ref (A 4))]))
  obtain ⟨T92, X92, e92, st92⟩ := getS2 X91 hx hZ hown (host := "") (Or.inl (hw _ (List.mem_of_getElem? (i := 35) rfl))) Via.refl e91 (show Sta Z h0 "com/example/pelt/pelt/Axis" "ANCESTOR_OR_SELF" "Lcom/example/pelt/pelt/Axis;" (.ref (A 1)) from hS 1 (by decide)) (g := (mkF m 8 #[.val (.ref (A 4))] [(.ref (A 4))])) rfl (hb hby d3m6_8)
  refine OGets.step st92 ?_
  show OGets p e below _ (T92.setTop (mkF m 11 #[.val (.ref (A 4))] [(.ref (A 1)), (.ref (A 4))]))
  refine OGets.step (fun _ => Jvm.RoadKit.acmp (g := (mkF m 11 #[.val (.ref (A 4))] [(.ref (A 1)), (.ref (A 4))])) X92 hx rfl rfl rfl (pc0 := 11) (pc' := 14) (same := false) rfl (hb hby d3m6_11) rfl (decide_eq_false fun q => absurd (hI 4 1 (by decide) (by decide) (Value.ref.inj q)) (by decide)) (by decide) (by decide)) ?_
  show OGets p e below _ (T92.setTop (mkF m 14 #[.val (.ref (A 4))] []))
  refine OGets.step (fun _ => XS.aloadN X92.here hx rfl (hb hby d3m6_14) rfl rfl) ?_
  show OGets p e below _ (T92.setTop (mkF m 15 #[.val (.ref (A 4))] [(.ref (A 4))]))
  obtain ⟨T93, X93, e93, st93⟩ := getS2 X92 hx hZ hown (host := "") (Or.inl (hw _ (List.mem_of_getElem? (i := 37) rfl))) Via.refl e92 (show Sta Z h0 "com/example/pelt/pelt/Axis" "PRECEDING" "Lcom/example/pelt/pelt/Axis;" (.ref (A 10)) from hS 10 (by decide)) (g := (mkF m 15 #[.val (.ref (A 4))] [(.ref (A 4))])) rfl (hb hby d3m6_15)
  refine OGets.step st93 ?_
  show OGets p e below _ (T93.setTop (mkF m 18 #[.val (.ref (A 4))] [(.ref (A 10)), (.ref (A 4))]))
  refine OGets.step (fun _ => Jvm.RoadKit.acmp (g := (mkF m 18 #[.val (.ref (A 4))] [(.ref (A 10)), (.ref (A 4))])) X93 hx rfl rfl rfl (pc0 := 18) (pc' := 21) (same := false) rfl (hb hby d3m6_18) rfl (decide_eq_false fun q => absurd (hI 4 10 (by decide) (by decide) (Value.ref.inj q)) (by decide)) (by decide) (by decide)) ?_
  show OGets p e below _ (T93.setTop (mkF m 21 #[.val (.ref (A 4))] []))
  refine OGets.step (fun _ => XS.aloadN X93.here hx rfl (hb hby d3m6_21) rfl rfl) ?_
  show OGets p e below _ (T93.setTop (mkF m 22 #[.val (.ref (A 4))] [(.ref (A 4))]))
  obtain ⟨T94, X94, e94, st94⟩ := getS2 X93 hx hZ hown (host := "") (Or.inl (hw _ (List.mem_of_getElem? (i := 39) rfl))) Via.refl e93 (show Sta Z h0 "com/example/pelt/pelt/Axis" "PRECEDING_SIBLING" "Lcom/example/pelt/pelt/Axis;" (.ref (A 11)) from hS 11 (by decide)) (g := (mkF m 22 #[.val (.ref (A 4))] [(.ref (A 4))])) rfl (hb hby d3m6_22)
  refine OGets.step st94 ?_
  show OGets p e below _ (T94.setTop (mkF m 25 #[.val (.ref (A 4))] [(.ref (A 11)), (.ref (A 4))]))
  refine OGets.step (fun _ => Jvm.RoadKit.acmp (g := (mkF m 25 #[.val (.ref (A 4))] [(.ref (A 11)), (.ref (A 4))])) X94 hx rfl rfl rfl (pc0 := 25) (pc' := 32) (same := false) rfl (hb hby d3m6_25) rfl (decide_eq_false fun q => absurd (hI 4 11 (by decide) (by decide) (Value.ref.inj q)) (by decide)) (by decide) (by decide)) ?_
  show OGets p e below _ (T94.setTop (mkF m 32 #[.val (.ref (A 4))] []))
  refine OGets.step (fun _ => XS.iconst X94.here hx rfl (hb hby d3m6_32)) ?_
  show OGets p e below _ (T94.setTop (mkF m 33 #[.val (.ref (A 4))] [(.int (0 : Int32))]))
  refine OGets.retN X94 hx hlk (t := .boolean) Bd.returns (by simp) (hb hby d3m6_33) (Nat.le_of_ble_eq_true rfl) (Nat.le_of_ble_eq_true rfl) ?_
  exact ⟨rfl, rfl, e94⟩
theorem dm3_25 : decode method_3_code 25 = .ok (.iconst 1, 1) := by decide +kernel
theorem dm3_26 : decode method_3_code 26 = .ok (.goto 4, 3) := by decide +kernel
theorem ef_ex4 (m : MethodId) (x0 : Int32) : entryFrame m #[(.int x0)] 5 = mkF m 0 #[.val (.int x0), .unset, .unset, .unset, .unset] [] := by first | (simp [entryFrame, mkF, argsToLocals, Value.category]; done) | rfl
def Q_ex4 (Z : State)  (h0 : Heap) (n0 : Nat) (v : Option Value) (h : Heap) (L : List Loc) : Prop := v = some (.int (1 : Int32)) ∧ L = [] ∧ h = h0
set_option maxRecDepth 65536 in
set_option maxHeartbeats 40000000 in
theorem rm_ex4 (l : Launch) (Z : State) (a0 : Array Value) (hw : ∀ d ∈ tables_1, d.before a0 Z = true) (ws : List Jvm.Cond)  (h0 : Heap) (n0 : Nat) (Z0 : n0 ≤ h0.size) :
    MetFree l (⟨"com/example/pelt/pelt/AxisListsOverlapPinLaw", "expected", "(I)Z"⟩ : MethodName) (head1 (Jvm.Cond.code (⟨"com/example/pelt/pelt/AxisListsOverlapPinLaw", "expected", "(I)Z"⟩ : MethodName) method_3_code 5 (some .boolean) :: ws) ({ frames := 0, cells := 0, slots := 0, locals := 0 } : Room)) (fun a_ U => a_ = #[(.int (4 : Int32))] ∧ Z.Warmed39 U.vm ∧ U.heap = h0) (fun _ _ _ _ _ => True) (fun _ U o U' => ∃ v L, o = .returned v ∧ Q_ex4 Z  h0 n0 v U'.heap L ∧ FrameEnd U o U' L ({ frames := 0, cells := 0, slots := 0, locals := 0 } : Room).cells ({ frames := 0, cells := 0, slots := 0, locals := 0 } : Room).slots) := by
  refine MetFree.of_bodySF (plainFor_of_name pn_0) hisR ?_
  intro p e s m args below meth c s₁ Bd hml0 hP hK
  obtain ⟨rfl, hZ, hh⟩ := hP
  have hx := Bd.exec
  have hby := Bd.bytes
  have hlk : meth.locks = false := Bd.notSynchronized
  have hml : c.maxLocals = 5 := hml0
  have hown : s.vm.findClass "com/example/pelt/pelt/AxisListsOverlapPinLaw" = some m.cls := findClass_of_methodNamed Bd.named
  have hnm := (name_of_methodNamed Bd.named Bd.method).1
  have X0 : Stand p l e ({ frames := 0, cells := 0, slots := 0, locals := 0 } : Room) s m #[(.int (4 : Int32))] below meth c s₁ [] 0 0 := Stand.of_body Bd
  have e0 : s₁.heap = h0 := by rw [← hh, Bd.state]; rfl
  have N0 := Fr.nil n0
  show OGets p e below (OLeaves s (Q_ex4 Z  h0 n0 ) ({ frames := 0, cells := 0, slots := 0, locals := 0 } : Room).cells ({ frames := 0, cells := 0, slots := 0, locals := 0 } : Room).slots) _
  refine OGets.enter (ef_ex4 m (4 : Int32)) ?_
  show OGets p e below _ (s₁.setTop (mkF m 0 #[.val (.int (4 : Int32)), .unset, .unset, .unset, .unset] []))
  refine OGets.step (fun _ => XS.iloadN X0.here hx rfl (hb hby dm3_0) rfl) ?_
  show OGets p e below _ (s₁.setTop (mkF m 1 #[.val (.int (4 : Int32)), .unset, .unset, .unset, .unset] [(.int (4 : Int32))]))
  refine OGets.step (fun _ => XS.ifNo X0.here hx rfl (hb hby dm3_1) rfl ((if0 _ _).trans (feq (by decide : ¬ ((4 : Int32) = (0 : Int32)))).1)) ?_
  show OGets p e below _ (s₁.setTop (mkF m 4 #[.val (.int (4 : Int32)), .unset, .unset, .unset, .unset] []))
  refine OGets.step (fun _ => XS.iloadN X0.here hx rfl (hb hby dm3_4) rfl) ?_
  show OGets p e below _ (s₁.setTop (mkF m 5 #[.val (.int (4 : Int32)), .unset, .unset, .unset, .unset] [(.int (4 : Int32))]))
  refine OGets.step (fun _ => XS.iconst X0.here hx rfl (hb hby dm3_5)) ?_
  show OGets p e below _ (s₁.setTop (mkF m 6 #[.val (.int (4 : Int32)), .unset, .unset, .unset, .unset] [(.int (1 : Int32)), (.int (4 : Int32))]))
  refine OGets.step (fun _ => XS.icmpYes X0.here hx rfl (pc0 := 6) (pc' := 13) rfl (hb hby dm3_6) rfl (feq (by decide : ¬ ((4 : Int32) = (1 : Int32)))).2 (by decide) (by decide)) ?_
  show OGets p e below _ (s₁.setTop (mkF m 13 #[.val (.int (4 : Int32)), .unset, .unset, .unset, .unset] []))
  refine OGets.step (fun _ => XS.iconst X0.here hx rfl (hb hby dm3_13)) ?_
  show OGets p e below _ (s₁.setTop (mkF m 14 #[.val (.int (4 : Int32)), .unset, .unset, .unset, .unset] [(.int (0 : Int32))]))
  refine OGets.step (fun _ => XS.istoreN X0.here hx rfl (hb hby dm3_14) rfl (l' := #[.val (.int (4 : Int32)), .val (.int (0 : Int32)), .unset, .unset, .unset]) rfl) ?_
  show OGets p e below _ (s₁.setTop (mkF m 15 #[.val (.int (4 : Int32)), .val (.int (0 : Int32)), .unset, .unset, .unset] []))
  refine OGets.step (fun _ => XS.iloadN X0.here hx rfl (hb hby dm3_15) rfl) ?_
  show OGets p e below _ (s₁.setTop (mkF m 16 #[.val (.int (4 : Int32)), .val (.int (0 : Int32)), .unset, .unset, .unset] [(.int (4 : Int32))]))
  refine OGets.step (fun _ => XS.iconst X0.here hx rfl (hb hby dm3_16)) ?_
  show OGets p e below _ (s₁.setTop (mkF m 17 #[.val (.int (4 : Int32)), .val (.int (0 : Int32)), .unset, .unset, .unset] [(.int (4 : Int32)), (.int (4 : Int32))]))
  refine OGets.step (fun _ => XS.icmpYes X0.here hx rfl (pc0 := 17) (pc' := 25) rfl (hb hby dm3_17) rfl (teq (by decide : (4 : Int32) = (4 : Int32))).1 (by decide) (by decide)) ?_
  show OGets p e below _ (s₁.setTop (mkF m 25 #[.val (.int (4 : Int32)), .val (.int (0 : Int32)), .unset, .unset, .unset] []))
  refine OGets.step (fun _ => XS.iconst X0.here hx rfl (hb hby dm3_25)) ?_
  show OGets p e below _ (s₁.setTop (mkF m 26 #[.val (.int (4 : Int32)), .val (.int (0 : Int32)), .unset, .unset, .unset] [(.int (1 : Int32))]))
  refine OGets.step (fun _ => XS.goto X0.here hx rfl (pc0 := 26) (pc' := 30) rfl (hb hby dm3_26) (by decide) (by decide)) ?_
  show OGets p e below _ (s₁.setTop (mkF m 30 #[.val (.int (4 : Int32)), .val (.int (0 : Int32)), .unset, .unset, .unset] [(.int (1 : Int32))]))
  refine OGets.step (fun _ => XS.istoreN X0.here hx rfl (hb hby dm3_30) rfl (l' := #[.val (.int (4 : Int32)), .val (.int (0 : Int32)), .val (.int (1 : Int32)), .unset, .unset]) rfl) ?_
  show OGets p e below _ (s₁.setTop (mkF m 31 #[.val (.int (4 : Int32)), .val (.int (0 : Int32)), .val (.int (1 : Int32)), .unset, .unset] []))
  refine OGets.step (fun _ => XS.iloadN X0.here hx rfl (hb hby dm3_31) rfl) ?_
  show OGets p e below _ (s₁.setTop (mkF m 32 #[.val (.int (4 : Int32)), .val (.int (0 : Int32)), .val (.int (1 : Int32)), .unset, .unset] [(.int (4 : Int32))]))
  refine OGets.step (fun _ => XS.bipush X0.here hx rfl (hb hby dm3_32)) ?_
  show OGets p e below _ (s₁.setTop (mkF m 34 #[.val (.int (4 : Int32)), .val (.int (0 : Int32)), .val (.int (1 : Int32)), .unset, .unset] [(.int (6 : Int32)), (.int (4 : Int32))]))
  refine OGets.step (fun _ => XS.icmpNo X0.here hx rfl (hb hby dm3_34) rfl (feq (by decide : ¬ ((4 : Int32) = (6 : Int32)))).1) ?_
  show OGets p e below _ (s₁.setTop (mkF m 37 #[.val (.int (4 : Int32)), .val (.int (0 : Int32)), .val (.int (1 : Int32)), .unset, .unset] []))
  refine OGets.step (fun _ => XS.iloadN X0.here hx rfl (hb hby dm3_37) rfl) ?_
  show OGets p e below _ (s₁.setTop (mkF m 38 #[.val (.int (4 : Int32)), .val (.int (0 : Int32)), .val (.int (1 : Int32)), .unset, .unset] [(.int (4 : Int32))]))
  refine OGets.step (fun _ => XS.bipush X0.here hx rfl (hb hby dm3_38)) ?_
  show OGets p e below _ (s₁.setTop (mkF m 40 #[.val (.int (4 : Int32)), .val (.int (0 : Int32)), .val (.int (1 : Int32)), .unset, .unset] [(.int (7 : Int32)), (.int (4 : Int32))]))
  refine OGets.step (fun _ => XS.icmpYes X0.here hx rfl (pc0 := 40) (pc' := 47) rfl (hb hby dm3_40) rfl (feq (by decide : ¬ ((4 : Int32) = (7 : Int32)))).2 (by decide) (by decide)) ?_
  show OGets p e below _ (s₁.setTop (mkF m 47 #[.val (.int (4 : Int32)), .val (.int (0 : Int32)), .val (.int (1 : Int32)), .unset, .unset] []))
  refine OGets.step (fun _ => XS.iconst X0.here hx rfl (hb hby dm3_47)) ?_
  show OGets p e below _ (s₁.setTop (mkF m 48 #[.val (.int (4 : Int32)), .val (.int (0 : Int32)), .val (.int (1 : Int32)), .unset, .unset] [(.int (0 : Int32))]))
  refine OGets.step (fun _ => XS.istoreN X0.here hx rfl (hb hby dm3_48) rfl (l' := #[.val (.int (4 : Int32)), .val (.int (0 : Int32)), .val (.int (1 : Int32)), .val (.int (0 : Int32)), .unset]) rfl) ?_
  show OGets p e below _ (s₁.setTop (mkF m 49 #[.val (.int (4 : Int32)), .val (.int (0 : Int32)), .val (.int (1 : Int32)), .val (.int (0 : Int32)), .unset] []))
  refine OGets.step (fun _ => XS.iloadN X0.here hx rfl (hb hby dm3_49) rfl) ?_
  show OGets p e below _ (s₁.setTop (mkF m 50 #[.val (.int (4 : Int32)), .val (.int (0 : Int32)), .val (.int (1 : Int32)), .val (.int (0 : Int32)), .unset] [(.int (4 : Int32))]))
  refine OGets.step (fun _ => XS.bipush X0.here hx rfl (hb hby dm3_50)) ?_
  show OGets p e below _ (s₁.setTop (mkF m 52 #[.val (.int (4 : Int32)), .val (.int (0 : Int32)), .val (.int (1 : Int32)), .val (.int (0 : Int32)), .unset] [(.int (10 : Int32)), (.int (4 : Int32))]))
  refine OGets.step (fun _ => XS.icmpNo X0.here hx rfl (hb hby dm3_52) rfl (feq (by decide : ¬ ((4 : Int32) = (10 : Int32)))).1) ?_
  show OGets p e below _ (s₁.setTop (mkF m 55 #[.val (.int (4 : Int32)), .val (.int (0 : Int32)), .val (.int (1 : Int32)), .val (.int (0 : Int32)), .unset] []))
  refine OGets.step (fun _ => XS.iloadN X0.here hx rfl (hb hby dm3_55) rfl) ?_
  show OGets p e below _ (s₁.setTop (mkF m 56 #[.val (.int (4 : Int32)), .val (.int (0 : Int32)), .val (.int (1 : Int32)), .val (.int (0 : Int32)), .unset] [(.int (4 : Int32))]))
  refine OGets.step (fun _ => XS.bipush X0.here hx rfl (hb hby dm3_56)) ?_
  show OGets p e below _ (s₁.setTop (mkF m 58 #[.val (.int (4 : Int32)), .val (.int (0 : Int32)), .val (.int (1 : Int32)), .val (.int (0 : Int32)), .unset] [(.int (11 : Int32)), (.int (4 : Int32))]))
  refine OGets.step (fun _ => XS.icmpYes X0.here hx rfl (pc0 := 58) (pc' := 65) rfl (hb hby dm3_58) rfl (feq (by decide : ¬ ((4 : Int32) = (11 : Int32)))).2 (by decide) (by decide)) ?_
  show OGets p e below _ (s₁.setTop (mkF m 65 #[.val (.int (4 : Int32)), .val (.int (0 : Int32)), .val (.int (1 : Int32)), .val (.int (0 : Int32)), .unset] []))
  refine OGets.step (fun _ => XS.iconst X0.here hx rfl (hb hby dm3_65)) ?_
  show OGets p e below _ (s₁.setTop (mkF m 66 #[.val (.int (4 : Int32)), .val (.int (0 : Int32)), .val (.int (1 : Int32)), .val (.int (0 : Int32)), .unset] [(.int (0 : Int32))]))
  refine OGets.step (fun _ => XS.istore X0.here hx rfl (hb hby dm3_66) rfl (l' := #[.val (.int (4 : Int32)), .val (.int (0 : Int32)), .val (.int (1 : Int32)), .val (.int (0 : Int32)), .val (.int (0 : Int32))]) rfl) ?_
  show OGets p e below _ (s₁.setTop (mkF m 68 #[.val (.int (4 : Int32)), .val (.int (0 : Int32)), .val (.int (1 : Int32)), .val (.int (0 : Int32)), .val (.int (0 : Int32))] []))
  refine OGets.step (fun _ => XS.iloadN X0.here hx rfl (hb hby dm3_68) rfl) ?_
  show OGets p e below _ (s₁.setTop (mkF m 69 #[.val (.int (4 : Int32)), .val (.int (0 : Int32)), .val (.int (1 : Int32)), .val (.int (0 : Int32)), .val (.int (0 : Int32))] [(.int (0 : Int32))]))
  refine OGets.step (fun _ => XS.ifNo X0.here hx rfl (hb hby dm3_69) rfl ((if0 _ _).trans (teq (by decide : (0 : Int32) = (0 : Int32))).2)) ?_
  show OGets p e below _ (s₁.setTop (mkF m 72 #[.val (.int (4 : Int32)), .val (.int (0 : Int32)), .val (.int (1 : Int32)), .val (.int (0 : Int32)), .val (.int (0 : Int32))] []))
  refine OGets.step (fun _ => XS.iloadN X0.here hx rfl (hb hby dm3_72) rfl) ?_
  show OGets p e below _ (s₁.setTop (mkF m 73 #[.val (.int (4 : Int32)), .val (.int (0 : Int32)), .val (.int (1 : Int32)), .val (.int (0 : Int32)), .val (.int (0 : Int32))] [(.int (1 : Int32))]))
  refine OGets.step (fun _ => XS.ifYes X0.here hx rfl (pc0 := 73) (pc' := 85) rfl (hb hby dm3_73) rfl ((if0 _ _).trans (feq (by decide : ¬ ((1 : Int32) = (0 : Int32)))).2) (by decide) (by decide)) ?_
  show OGets p e below _ (s₁.setTop (mkF m 85 #[.val (.int (4 : Int32)), .val (.int (0 : Int32)), .val (.int (1 : Int32)), .val (.int (0 : Int32)), .val (.int (0 : Int32))] []))
  refine OGets.step (fun _ => XS.iconst X0.here hx rfl (hb hby dm3_85)) ?_
  show OGets p e below _ (s₁.setTop (mkF m 86 #[.val (.int (4 : Int32)), .val (.int (0 : Int32)), .val (.int (1 : Int32)), .val (.int (0 : Int32)), .val (.int (0 : Int32))] [(.int (1 : Int32))]))
  refine OGets.step (fun _ => XS.goto X0.here hx rfl (pc0 := 86) (pc' := 90) rfl (hb hby dm3_86) (by decide) (by decide)) ?_
  show OGets p e below _ (s₁.setTop (mkF m 90 #[.val (.int (4 : Int32)), .val (.int (0 : Int32)), .val (.int (1 : Int32)), .val (.int (0 : Int32)), .val (.int (0 : Int32))] [(.int (1 : Int32))]))
  refine OGets.retN X0 hx hlk (t := .boolean) Bd.returns (by simp) (hb hby dm3_90) (Nat.le_of_ble_eq_true rfl) (Nat.le_of_ble_eq_true rfl) ?_
  exact ⟨rfl, rfl, e0⟩
theorem dm2_44 : decode method_2_code 44 = .ok (.iload_n 0, 1) := by decide +kernel
theorem dm2_45 : decode method_2_code 45 = .ok (.iconst 5, 1) := by decide +kernel
theorem dm2_46 : decode method_2_code 46 = .ok (.if_icmp .ne 7, 3) := by decide +kernel
theorem dm2_49 : decode method_2_code 49 = .ok (.getstatic 25, 3) := by decide +kernel
theorem dm2_52 : decode method_2_code 52 = .ok (.areturn, 1) := by decide +kernel
theorem ef_pk5 (m : MethodId) (x0 : Int32) : entryFrame m #[(.int x0)] 1 = mkF m 0 #[.val (.int x0)] [] := by first | (simp [entryFrame, mkF, argsToLocals, Value.category]; done) | rfl
def Q_pk5 (Z : State) (A : Nat → Addr) (h0 : Heap) (n0 : Nat) (v : Option Value) (h : Heap) (L : List Loc) : Prop := v = some (.ref (A 5)) ∧ L = [] ∧ h = h0
set_option maxRecDepth 65536 in
set_option maxHeartbeats 40000000 in
theorem rm_pk5 (l : Launch) (Z : State) (a0 : Array Value) (hw : ∀ d ∈ tables_1, d.before a0 Z = true) (ws : List Jvm.Cond) (A : Nat → Addr) (h0 : Heap) (n0 : Nat) (Z0 : n0 ≤ h0.size) (hS : ∀ i, i < 13 → Sta Z h0 "com/example/pelt/pelt/Axis" (nmOf i) "Lcom/example/pelt/pelt/Axis;" (.ref (A i))) (hI : ∀ i j, i < 13 → j < 13 → A i = A j → i = j) :
    MetFree l (⟨"com/example/pelt/pelt/AxisListsOverlapPinLaw", "pick", "(I)Lcom/example/pelt/pelt/Axis;"⟩ : MethodName) (head1 (Jvm.Cond.code (⟨"com/example/pelt/pelt/AxisListsOverlapPinLaw", "pick", "(I)Lcom/example/pelt/pelt/Axis;"⟩ : MethodName) method_2_code 1 (some (.object "com/example/pelt/pelt/Axis")) :: ws) ({ frames := 0, cells := 0, slots := 0, locals := 0 } : Room)) (fun a_ U => a_ = #[(.int (5 : Int32))] ∧ Z.Warmed39 U.vm ∧ U.heap = h0) (fun _ _ _ _ _ => True) (fun _ U o U' => ∃ v L, o = .returned v ∧ Q_pk5 Z A h0 n0 v U'.heap L ∧ FrameEnd U o U' L ({ frames := 0, cells := 0, slots := 0, locals := 0 } : Room).cells ({ frames := 0, cells := 0, slots := 0, locals := 0 } : Room).slots) := by
  refine MetFree.of_bodySF (plainFor_of_name pn_0) hisR ?_
  intro p e s m args below meth c s₁ Bd hml0 hP hK
  obtain ⟨rfl, hZ, hh⟩ := hP
  have hx := Bd.exec
  have hby := Bd.bytes
  have hlk : meth.locks = false := Bd.notSynchronized
  have hml : c.maxLocals = 1 := hml0
  have hown : s.vm.findClass "com/example/pelt/pelt/AxisListsOverlapPinLaw" = some m.cls := findClass_of_methodNamed Bd.named
  have hnm := (name_of_methodNamed Bd.named Bd.method).1
  have X0 : Stand p l e ({ frames := 0, cells := 0, slots := 0, locals := 0 } : Room) s m #[(.int (5 : Int32))] below meth c s₁ [] 0 0 := Stand.of_body Bd
  have e0 : s₁.heap = h0 := by rw [← hh, Bd.state]; rfl
  have N0 := Fr.nil n0
  show OGets p e below (OLeaves s (Q_pk5 Z A h0 n0 ) ({ frames := 0, cells := 0, slots := 0, locals := 0 } : Room).cells ({ frames := 0, cells := 0, slots := 0, locals := 0 } : Room).slots) _
  refine OGets.enter (ef_pk5 m (5 : Int32)) ?_
  show OGets p e below _ (s₁.setTop (mkF m 0 #[.val (.int (5 : Int32))] []))
  refine OGets.step (fun _ => XS.iloadN X0.here hx rfl (hb hby dm2_0) rfl) ?_
  show OGets p e below _ (s₁.setTop (mkF m 1 #[.val (.int (5 : Int32))] [(.int (5 : Int32))]))
  refine OGets.step (fun _ => XS.ifYes X0.here hx rfl (pc0 := 1) (pc' := 8) rfl (hb hby dm2_1) rfl ((if0 _ _).trans (feq (by decide : ¬ ((5 : Int32) = (0 : Int32)))).2) (by decide) (by decide)) ?_
  show OGets p e below _ (s₁.setTop (mkF m 8 #[.val (.int (5 : Int32))] []))
  refine OGets.step (fun _ => XS.iloadN X0.here hx rfl (hb hby dm2_8) rfl) ?_
  show OGets p e below _ (s₁.setTop (mkF m 9 #[.val (.int (5 : Int32))] [(.int (5 : Int32))]))
  refine OGets.step (fun _ => XS.iconst X0.here hx rfl (hb hby dm2_9)) ?_
  show OGets p e below _ (s₁.setTop (mkF m 10 #[.val (.int (5 : Int32))] [(.int (1 : Int32)), (.int (5 : Int32))]))
  refine OGets.step (fun _ => XS.icmpYes X0.here hx rfl (pc0 := 10) (pc' := 17) rfl (hb hby dm2_10) rfl (feq (by decide : ¬ ((5 : Int32) = (1 : Int32)))).2 (by decide) (by decide)) ?_
  show OGets p e below _ (s₁.setTop (mkF m 17 #[.val (.int (5 : Int32))] []))
  refine OGets.step (fun _ => XS.iloadN X0.here hx rfl (hb hby dm2_17) rfl) ?_
  show OGets p e below _ (s₁.setTop (mkF m 18 #[.val (.int (5 : Int32))] [(.int (5 : Int32))]))
  refine OGets.step (fun _ => XS.iconst X0.here hx rfl (hb hby dm2_18)) ?_
  show OGets p e below _ (s₁.setTop (mkF m 19 #[.val (.int (5 : Int32))] [(.int (2 : Int32)), (.int (5 : Int32))]))
  refine OGets.step (fun _ => XS.icmpYes X0.here hx rfl (pc0 := 19) (pc' := 26) rfl (hb hby dm2_19) rfl (feq (by decide : ¬ ((5 : Int32) = (2 : Int32)))).2 (by decide) (by decide)) ?_
  show OGets p e below _ (s₁.setTop (mkF m 26 #[.val (.int (5 : Int32))] []))
  refine OGets.step (fun _ => XS.iloadN X0.here hx rfl (hb hby dm2_26) rfl) ?_
  show OGets p e below _ (s₁.setTop (mkF m 27 #[.val (.int (5 : Int32))] [(.int (5 : Int32))]))
  refine OGets.step (fun _ => XS.iconst X0.here hx rfl (hb hby dm2_27)) ?_
  show OGets p e below _ (s₁.setTop (mkF m 28 #[.val (.int (5 : Int32))] [(.int (3 : Int32)), (.int (5 : Int32))]))
  refine OGets.step (fun _ => XS.icmpYes X0.here hx rfl (pc0 := 28) (pc' := 35) rfl (hb hby dm2_28) rfl (feq (by decide : ¬ ((5 : Int32) = (3 : Int32)))).2 (by decide) (by decide)) ?_
  show OGets p e below _ (s₁.setTop (mkF m 35 #[.val (.int (5 : Int32))] []))
  refine OGets.step (fun _ => XS.iloadN X0.here hx rfl (hb hby dm2_35) rfl) ?_
  show OGets p e below _ (s₁.setTop (mkF m 36 #[.val (.int (5 : Int32))] [(.int (5 : Int32))]))
  refine OGets.step (fun _ => XS.iconst X0.here hx rfl (hb hby dm2_36)) ?_
  show OGets p e below _ (s₁.setTop (mkF m 37 #[.val (.int (5 : Int32))] [(.int (4 : Int32)), (.int (5 : Int32))]))
  refine OGets.step (fun _ => XS.icmpYes X0.here hx rfl (pc0 := 37) (pc' := 44) rfl (hb hby dm2_37) rfl (feq (by decide : ¬ ((5 : Int32) = (4 : Int32)))).2 (by decide) (by decide)) ?_
  show OGets p e below _ (s₁.setTop (mkF m 44 #[.val (.int (5 : Int32))] []))
  refine OGets.step (fun _ => XS.iloadN X0.here hx rfl (hb hby dm2_44) rfl) ?_
  show OGets p e below _ (s₁.setTop (mkF m 45 #[.val (.int (5 : Int32))] [(.int (5 : Int32))]))
  refine OGets.step (fun _ => XS.iconst X0.here hx rfl (hb hby dm2_45)) ?_
  show OGets p e below _ (s₁.setTop (mkF m 46 #[.val (.int (5 : Int32))] [(.int (5 : Int32)), (.int (5 : Int32))]))
  refine OGets.step (fun _ => XS.icmpNo X0.here hx rfl (hb hby dm2_46) rfl (teq (by decide : (5 : Int32) = (5 : Int32))).2) ?_
  show OGets p e below _ (s₁.setTop (mkF m 49 #[.val (.int (5 : Int32))] []))
  obtain ⟨T110, X110, e110, st110⟩ := getS2 X0 hx hZ hown (host := "") (Or.inl (hw _ (List.mem_of_getElem? (i := 45) rfl))) Via.refl e0 (show Sta Z h0 "com/example/pelt/pelt/Axis" "DESCENDANT_OR_SELF" "Lcom/example/pelt/pelt/Axis;" (.ref (A 5)) from hS 5 (by decide)) (g := (mkF m 49 #[.val (.int (5 : Int32))] [])) rfl (hb hby dm2_49)
  refine OGets.step st110 ?_
  show OGets p e below _ (T110.setTop (mkF m 52 #[.val (.int (5 : Int32))] [(.ref (A 5))]))
  refine OGets.retA X110 hx hlk (t := (.object "com/example/pelt/pelt/Axis")) Bd.returns rfl rfl rfl (hb hby dm2_52) (Nat.le_of_ble_eq_true rfl) (Nat.le_of_ble_eq_true rfl) ?_
  exact ⟨rfl, rfl, e110⟩
theorem ef_lo5 (m : MethodId) (x0 : Addr) : entryFrame m #[(.ref x0)] 1 = mkF m 0 #[.val (.ref x0)] [] := by first | (simp [entryFrame, mkF, argsToLocals, Value.category]; done) | rfl
def Q_lo5 (Z : State) (A : Nat → Addr) (h0 : Heap) (n0 : Nat) (v : Option Value) (h : Heap) (L : List Loc) : Prop := v = some (.int (1 : Int32)) ∧ L = [] ∧ h = h0
set_option maxRecDepth 65536 in
set_option maxHeartbeats 40000000 in
theorem rm_lo5 (l : Launch) (Z : State) (a0 : Array Value) (hw : ∀ d ∈ tables_1, d.before a0 Z = true) (ws : List Jvm.Cond) (A : Nat → Addr) (h0 : Heap) (n0 : Nat) (Z0 : n0 ≤ h0.size) (hS : ∀ i, i < 13 → Sta Z h0 "com/example/pelt/pelt/Axis" (nmOf i) "Lcom/example/pelt/pelt/Axis;" (.ref (A i))) (hI : ∀ i j, i < 13 → j < 13 → A i = A j → i = j) :
    MetFree l (⟨"com/example/pelt/pelt/Axis", "listsOverlap", "()Z"⟩ : MethodName) (head1 (Jvm.Cond.code (⟨"com/example/pelt/pelt/Axis", "listsOverlap", "()Z"⟩ : MethodName) prog_3_method_15_code 1 (some .boolean) :: ws) ({ frames := 0, cells := 0, slots := 0, locals := 0 } : Room)) (fun a_ U => a_ = #[(.ref (A 5))] ∧ Z.Warmed39 U.vm ∧ U.heap = h0) (fun _ _ _ _ _ => True) (fun _ U o U' => ∃ v L, o = .returned v ∧ Q_lo5 Z A h0 n0 v U'.heap L ∧ FrameEnd U o U' L ({ frames := 0, cells := 0, slots := 0, locals := 0 } : Room).cells ({ frames := 0, cells := 0, slots := 0, locals := 0 } : Room).slots) := by
  refine MetFree.of_bodySF (plainFor_of_name pn_1) hisR ?_
  intro p e s m args below meth c s₁ Bd hml0 hP hK
  obtain ⟨rfl, hZ, hh⟩ := hP
  have hx := Bd.exec
  have hby := Bd.bytes
  have hlk : meth.locks = false := Bd.notSynchronized
  have hml : c.maxLocals = 1 := hml0
  have hown : s.vm.findClass "com/example/pelt/pelt/Axis" = some m.cls := findClass_of_methodNamed Bd.named
  have hnm := (name_of_methodNamed Bd.named Bd.method).1
  have X0 : Stand p l e ({ frames := 0, cells := 0, slots := 0, locals := 0 } : Room) s m #[(.ref (A 5))] below meth c s₁ [] 0 0 := Stand.of_body Bd
  have e0 : s₁.heap = h0 := by rw [← hh, Bd.state]; rfl
  have N0 := Fr.nil n0
  show OGets p e below (OLeaves s (Q_lo5 Z A h0 n0 ) ({ frames := 0, cells := 0, slots := 0, locals := 0 } : Room).cells ({ frames := 0, cells := 0, slots := 0, locals := 0 } : Room).slots) _
  refine OGets.enter (ef_lo5 m (A 5)) ?_
  show OGets p e below _ (s₁.setTop (mkF m 0 #[.val (.ref (A 5))] []))
  refine OGets.step (fun _ => XS.aloadN X0.here hx rfl (hb hby d3m15_0) rfl rfl) ?_
  show OGets p e below _ (s₁.setTop (mkF m 1 #[.val (.ref (A 5))] [(.ref (A 5))]))
  obtain ⟨T111, X111, e111, st111⟩ := getS2 X0 hx hZ hown (host := "") (Or.inl (hw _ (List.mem_of_getElem? (i := 13) rfl))) Via.refl e0 (show Sta Z h0 "com/example/pelt/pelt/Axis" "CHILD" "Lcom/example/pelt/pelt/Axis;" (.ref (A 3)) from hS 3 (by decide)) (g := (mkF m 1 #[.val (.ref (A 5))] [(.ref (A 5))])) rfl (hb hby d3m15_1)
  refine OGets.step st111 ?_
  show OGets p e below _ (T111.setTop (mkF m 4 #[.val (.ref (A 5))] [(.ref (A 3)), (.ref (A 5))]))
  refine OGets.step (fun _ => Jvm.RoadKit.acmp (g := (mkF m 4 #[.val (.ref (A 5))] [(.ref (A 3)), (.ref (A 5))])) X111 hx rfl rfl rfl (pc0 := 4) (pc' := 7) (same := false) rfl (hb hby d3m15_4) rfl (decide_eq_false fun q => absurd (hI 5 3 (by decide) (by decide) (Value.ref.inj q)) (by decide)) (by decide) (by decide)) ?_
  show OGets p e below _ (T111.setTop (mkF m 7 #[.val (.ref (A 5))] []))
  refine OGets.step (fun _ => XS.aloadN X111.here hx rfl (hb hby d3m15_7) rfl rfl) ?_
  show OGets p e below _ (T111.setTop (mkF m 8 #[.val (.ref (A 5))] [(.ref (A 5))]))
  obtain ⟨T112, X112, e112, st112⟩ := getS2 X111 hx hZ hown (host := "") (Or.inl (hw _ (List.mem_of_getElem? (i := 15) rfl))) Via.refl e111 (show Sta Z h0 "com/example/pelt/pelt/Axis" "ATTRIBUTE" "Lcom/example/pelt/pelt/Axis;" (.ref (A 2)) from hS 2 (by decide)) (g := (mkF m 8 #[.val (.ref (A 5))] [(.ref (A 5))])) rfl (hb hby d3m15_8)
  refine OGets.step st112 ?_
  show OGets p e below _ (T112.setTop (mkF m 11 #[.val (.ref (A 5))] [(.ref (A 2)), (.ref (A 5))]))
  refine OGets.step (fun _ => Jvm.RoadKit.acmp (g := (mkF m 11 #[.val (.ref (A 5))] [(.ref (A 2)), (.ref (A 5))])) X112 hx rfl rfl rfl (pc0 := 11) (pc' := 14) (same := false) rfl (hb hby d3m15_11) rfl (decide_eq_false fun q => absurd (hI 5 2 (by decide) (by decide) (Value.ref.inj q)) (by decide)) (by decide) (by decide)) ?_
  show OGets p e below _ (T112.setTop (mkF m 14 #[.val (.ref (A 5))] []))
  refine OGets.step (fun _ => XS.aloadN X112.here hx rfl (hb hby d3m15_14) rfl rfl) ?_
  show OGets p e below _ (T112.setTop (mkF m 15 #[.val (.ref (A 5))] [(.ref (A 5))]))
  obtain ⟨T113, X113, e113, st113⟩ := getS2 X112 hx hZ hown (host := "") (Or.inl (hw _ (List.mem_of_getElem? (i := 17) rfl))) Via.refl e112 (show Sta Z h0 "com/example/pelt/pelt/Axis" "NAMESPACE" "Lcom/example/pelt/pelt/Axis;" (.ref (A 8)) from hS 8 (by decide)) (g := (mkF m 15 #[.val (.ref (A 5))] [(.ref (A 5))])) rfl (hb hby d3m15_15)
  refine OGets.step st113 ?_
  show OGets p e below _ (T113.setTop (mkF m 18 #[.val (.ref (A 5))] [(.ref (A 8)), (.ref (A 5))]))
  refine OGets.step (fun _ => Jvm.RoadKit.acmp (g := (mkF m 18 #[.val (.ref (A 5))] [(.ref (A 8)), (.ref (A 5))])) X113 hx rfl rfl rfl (pc0 := 18) (pc' := 21) (same := false) rfl (hb hby d3m15_18) rfl (decide_eq_false fun q => absurd (hI 5 8 (by decide) (by decide) (Value.ref.inj q)) (by decide)) (by decide) (by decide)) ?_
  show OGets p e below _ (T113.setTop (mkF m 21 #[.val (.ref (A 5))] []))
  refine OGets.step (fun _ => XS.aloadN X113.here hx rfl (hb hby d3m15_21) rfl rfl) ?_
  show OGets p e below _ (T113.setTop (mkF m 22 #[.val (.ref (A 5))] [(.ref (A 5))]))
  obtain ⟨T114, X114, e114, st114⟩ := getS2 X113 hx hZ hown (host := "") (Or.inl (hw _ (List.mem_of_getElem? (i := 19) rfl))) Via.refl e113 (show Sta Z h0 "com/example/pelt/pelt/Axis" "PARENT" "Lcom/example/pelt/pelt/Axis;" (.ref (A 9)) from hS 9 (by decide)) (g := (mkF m 22 #[.val (.ref (A 5))] [(.ref (A 5))])) rfl (hb hby d3m15_22)
  refine OGets.step st114 ?_
  show OGets p e below _ (T114.setTop (mkF m 25 #[.val (.ref (A 5))] [(.ref (A 9)), (.ref (A 5))]))
  refine OGets.step (fun _ => Jvm.RoadKit.acmp (g := (mkF m 25 #[.val (.ref (A 5))] [(.ref (A 9)), (.ref (A 5))])) X114 hx rfl rfl rfl (pc0 := 25) (pc' := 28) (same := false) rfl (hb hby d3m15_25) rfl (decide_eq_false fun q => absurd (hI 5 9 (by decide) (by decide) (Value.ref.inj q)) (by decide)) (by decide) (by decide)) ?_
  show OGets p e below _ (T114.setTop (mkF m 28 #[.val (.ref (A 5))] []))
  refine OGets.step (fun _ => XS.aloadN X114.here hx rfl (hb hby d3m15_28) rfl rfl) ?_
  show OGets p e below _ (T114.setTop (mkF m 29 #[.val (.ref (A 5))] [(.ref (A 5))]))
  obtain ⟨T115, X115, e115, st115⟩ := getS2 X114 hx hZ hown (host := "") (Or.inl (hw _ (List.mem_of_getElem? (i := 21) rfl))) Via.refl e114 (show Sta Z h0 "com/example/pelt/pelt/Axis" "SELF" "Lcom/example/pelt/pelt/Axis;" (.ref (A 12)) from hS 12 (by decide)) (g := (mkF m 29 #[.val (.ref (A 5))] [(.ref (A 5))])) rfl (hb hby d3m15_29)
  refine OGets.step st115 ?_
  show OGets p e below _ (T115.setTop (mkF m 32 #[.val (.ref (A 5))] [(.ref (A 12)), (.ref (A 5))]))
  refine OGets.step (fun _ => Jvm.RoadKit.acmp (g := (mkF m 32 #[.val (.ref (A 5))] [(.ref (A 12)), (.ref (A 5))])) X115 hx rfl rfl rfl (pc0 := 32) (pc' := 35) (same := false) rfl (hb hby d3m15_32) rfl (decide_eq_false fun q => absurd (hI 5 12 (by decide) (by decide) (Value.ref.inj q)) (by decide)) (by decide) (by decide)) ?_
  show OGets p e below _ (T115.setTop (mkF m 35 #[.val (.ref (A 5))] []))
  refine OGets.step (fun _ => XS.iconst X115.here hx rfl (hb hby d3m15_35)) ?_
  show OGets p e below _ (T115.setTop (mkF m 36 #[.val (.ref (A 5))] [(.int (1 : Int32))]))
  refine OGets.step (fun _ => XS.goto X115.here hx rfl (pc0 := 36) (pc' := 40) rfl (hb hby d3m15_36) (by decide) (by decide)) ?_
  show OGets p e below _ (T115.setTop (mkF m 40 #[.val (.ref (A 5))] [(.int (1 : Int32))]))
  refine OGets.retN X115 hx hlk (t := .boolean) Bd.returns (by simp) (hb hby d3m15_40) (Nat.le_of_ble_eq_true rfl) (Nat.le_of_ble_eq_true rfl) ?_
  exact ⟨rfl, rfl, e115⟩
theorem ef_rv5 (m : MethodId) (x0 : Addr) : entryFrame m #[(.ref x0)] 1 = mkF m 0 #[.val (.ref x0)] [] := by first | (simp [entryFrame, mkF, argsToLocals, Value.category]; done) | rfl
def Q_rv5 (Z : State) (A : Nat → Addr) (h0 : Heap) (n0 : Nat) (v : Option Value) (h : Heap) (L : List Loc) : Prop := v = some (.int (0 : Int32)) ∧ L = [] ∧ h = h0
set_option maxRecDepth 65536 in
set_option maxHeartbeats 40000000 in
theorem rm_rv5 (l : Launch) (Z : State) (a0 : Array Value) (hw : ∀ d ∈ tables_1, d.before a0 Z = true) (ws : List Jvm.Cond) (A : Nat → Addr) (h0 : Heap) (n0 : Nat) (Z0 : n0 ≤ h0.size) (hS : ∀ i, i < 13 → Sta Z h0 "com/example/pelt/pelt/Axis" (nmOf i) "Lcom/example/pelt/pelt/Axis;" (.ref (A i))) (hI : ∀ i j, i < 13 → j < 13 → A i = A j → i = j) :
    MetFree l (⟨"com/example/pelt/pelt/Axis", "isReverse", "()Z"⟩ : MethodName) (head1 (Jvm.Cond.code (⟨"com/example/pelt/pelt/Axis", "isReverse", "()Z"⟩ : MethodName) prog_3_method_6_code 1 (some .boolean) :: ws) ({ frames := 0, cells := 0, slots := 0, locals := 0 } : Room)) (fun a_ U => a_ = #[(.ref (A 5))] ∧ Z.Warmed39 U.vm ∧ U.heap = h0) (fun _ _ _ _ _ => True) (fun _ U o U' => ∃ v L, o = .returned v ∧ Q_rv5 Z A h0 n0 v U'.heap L ∧ FrameEnd U o U' L ({ frames := 0, cells := 0, slots := 0, locals := 0 } : Room).cells ({ frames := 0, cells := 0, slots := 0, locals := 0 } : Room).slots) := by
  refine MetFree.of_bodySF (plainFor_of_name pn_1) hisR ?_
  intro p e s m args below meth c s₁ Bd hml0 hP hK
  obtain ⟨rfl, hZ, hh⟩ := hP
  have hx := Bd.exec
  have hby := Bd.bytes
  have hlk : meth.locks = false := Bd.notSynchronized
  have hml : c.maxLocals = 1 := hml0
  have hown : s.vm.findClass "com/example/pelt/pelt/Axis" = some m.cls := findClass_of_methodNamed Bd.named
  have hnm := (name_of_methodNamed Bd.named Bd.method).1
  have X0 : Stand p l e ({ frames := 0, cells := 0, slots := 0, locals := 0 } : Room) s m #[(.ref (A 5))] below meth c s₁ [] 0 0 := Stand.of_body Bd
  have e0 : s₁.heap = h0 := by rw [← hh, Bd.state]; rfl
  have N0 := Fr.nil n0
  show OGets p e below (OLeaves s (Q_rv5 Z A h0 n0 ) ({ frames := 0, cells := 0, slots := 0, locals := 0 } : Room).cells ({ frames := 0, cells := 0, slots := 0, locals := 0 } : Room).slots) _
  refine OGets.enter (ef_rv5 m (A 5)) ?_
  show OGets p e below _ (s₁.setTop (mkF m 0 #[.val (.ref (A 5))] []))
  refine OGets.step (fun _ => XS.aloadN X0.here hx rfl (hb hby d3m6_0) rfl rfl) ?_
  show OGets p e below _ (s₁.setTop (mkF m 1 #[.val (.ref (A 5))] [(.ref (A 5))]))
  obtain ⟨T116, X116, e116, st116⟩ := getS2 X0 hx hZ hown (host := "") (Or.inl (hw _ (List.mem_of_getElem? (i := 28) rfl))) Via.refl e0 (show Sta Z h0 "com/example/pelt/pelt/Axis" "ANCESTOR" "Lcom/example/pelt/pelt/Axis;" (.ref (A 0)) from hS 0 (by decide)) (g := (mkF m 1 #[.val (.ref (A 5))] [(.ref (A 5))])) rfl (hb hby d3m6_1)
  refine OGets.step st116 ?_
  show OGets p e below _ (T116.setTop (mkF m 4 #[.val (.ref (A 5))] [(.ref (A 0)), (.ref (A 5))]))
  refine OGets.step (fun _ => Jvm.RoadKit.acmp (g := (mkF m 4 #[.val (.ref (A 5))] [(.ref (A 0)), (.ref (A 5))])) X116 hx rfl rfl rfl (pc0 := 4) (pc' := 7) (same := false) rfl (hb hby d3m6_4) rfl (decide_eq_false fun q => absurd (hI 5 0 (by decide) (by decide) (Value.ref.inj q)) (by decide)) (by decide) (by decide)) ?_
  show OGets p e below _ (T116.setTop (mkF m 7 #[.val (.ref (A 5))] []))
  refine OGets.step (fun _ => XS.aloadN X116.here hx rfl (hb hby d3m6_7) rfl rfl) ?_
  show OGets p e below _ (T116.setTop (mkF m 8 #[.val (.ref (A 5))] [(.ref (A 5))]))
  obtain ⟨T117, X117, e117, st117⟩ := getS2 X116 hx hZ hown (host := "") (Or.inl (hw _ (List.mem_of_getElem? (i := 35) rfl))) Via.refl e116 (show Sta Z h0 "com/example/pelt/pelt/Axis" "ANCESTOR_OR_SELF" "Lcom/example/pelt/pelt/Axis;" (.ref (A 1)) from hS 1 (by decide)) (g := (mkF m 8 #[.val (.ref (A 5))] [(.ref (A 5))])) rfl (hb hby d3m6_8)
  refine OGets.step st117 ?_
  show OGets p e below _ (T117.setTop (mkF m 11 #[.val (.ref (A 5))] [(.ref (A 1)), (.ref (A 5))]))
  refine OGets.step (fun _ => Jvm.RoadKit.acmp (g := (mkF m 11 #[.val (.ref (A 5))] [(.ref (A 1)), (.ref (A 5))])) X117 hx rfl rfl rfl (pc0 := 11) (pc' := 14) (same := false) rfl (hb hby d3m6_11) rfl (decide_eq_false fun q => absurd (hI 5 1 (by decide) (by decide) (Value.ref.inj q)) (by decide)) (by decide) (by decide)) ?_
  show OGets p e below _ (T117.setTop (mkF m 14 #[.val (.ref (A 5))] []))
  refine OGets.step (fun _ => XS.aloadN X117.here hx rfl (hb hby d3m6_14) rfl rfl) ?_
  show OGets p e below _ (T117.setTop (mkF m 15 #[.val (.ref (A 5))] [(.ref (A 5))]))
  obtain ⟨T118, X118, e118, st118⟩ := getS2 X117 hx hZ hown (host := "") (Or.inl (hw _ (List.mem_of_getElem? (i := 37) rfl))) Via.refl e117 (show Sta Z h0 "com/example/pelt/pelt/Axis" "PRECEDING" "Lcom/example/pelt/pelt/Axis;" (.ref (A 10)) from hS 10 (by decide)) (g := (mkF m 15 #[.val (.ref (A 5))] [(.ref (A 5))])) rfl (hb hby d3m6_15)
  refine OGets.step st118 ?_
  show OGets p e below _ (T118.setTop (mkF m 18 #[.val (.ref (A 5))] [(.ref (A 10)), (.ref (A 5))]))
  refine OGets.step (fun _ => Jvm.RoadKit.acmp (g := (mkF m 18 #[.val (.ref (A 5))] [(.ref (A 10)), (.ref (A 5))])) X118 hx rfl rfl rfl (pc0 := 18) (pc' := 21) (same := false) rfl (hb hby d3m6_18) rfl (decide_eq_false fun q => absurd (hI 5 10 (by decide) (by decide) (Value.ref.inj q)) (by decide)) (by decide) (by decide)) ?_
  show OGets p e below _ (T118.setTop (mkF m 21 #[.val (.ref (A 5))] []))
  refine OGets.step (fun _ => XS.aloadN X118.here hx rfl (hb hby d3m6_21) rfl rfl) ?_
  show OGets p e below _ (T118.setTop (mkF m 22 #[.val (.ref (A 5))] [(.ref (A 5))]))
  obtain ⟨T119, X119, e119, st119⟩ := getS2 X118 hx hZ hown (host := "") (Or.inl (hw _ (List.mem_of_getElem? (i := 39) rfl))) Via.refl e118 (show Sta Z h0 "com/example/pelt/pelt/Axis" "PRECEDING_SIBLING" "Lcom/example/pelt/pelt/Axis;" (.ref (A 11)) from hS 11 (by decide)) (g := (mkF m 22 #[.val (.ref (A 5))] [(.ref (A 5))])) rfl (hb hby d3m6_22)
  refine OGets.step st119 ?_
  show OGets p e below _ (T119.setTop (mkF m 25 #[.val (.ref (A 5))] [(.ref (A 11)), (.ref (A 5))]))
  refine OGets.step (fun _ => Jvm.RoadKit.acmp (g := (mkF m 25 #[.val (.ref (A 5))] [(.ref (A 11)), (.ref (A 5))])) X119 hx rfl rfl rfl (pc0 := 25) (pc' := 32) (same := false) rfl (hb hby d3m6_25) rfl (decide_eq_false fun q => absurd (hI 5 11 (by decide) (by decide) (Value.ref.inj q)) (by decide)) (by decide) (by decide)) ?_
  show OGets p e below _ (T119.setTop (mkF m 32 #[.val (.ref (A 5))] []))
  refine OGets.step (fun _ => XS.iconst X119.here hx rfl (hb hby d3m6_32)) ?_
  show OGets p e below _ (T119.setTop (mkF m 33 #[.val (.ref (A 5))] [(.int (0 : Int32))]))
  refine OGets.retN X119 hx hlk (t := .boolean) Bd.returns (by simp) (hb hby d3m6_33) (Nat.le_of_ble_eq_true rfl) (Nat.le_of_ble_eq_true rfl) ?_
  exact ⟨rfl, rfl, e119⟩
theorem ef_ex5 (m : MethodId) (x0 : Int32) : entryFrame m #[(.int x0)] 5 = mkF m 0 #[.val (.int x0), .unset, .unset, .unset, .unset] [] := by first | (simp [entryFrame, mkF, argsToLocals, Value.category]; done) | rfl
def Q_ex5 (Z : State)  (h0 : Heap) (n0 : Nat) (v : Option Value) (h : Heap) (L : List Loc) : Prop := v = some (.int (1 : Int32)) ∧ L = [] ∧ h = h0
set_option maxRecDepth 65536 in
set_option maxHeartbeats 40000000 in
theorem rm_ex5 (l : Launch) (Z : State) (a0 : Array Value) (hw : ∀ d ∈ tables_1, d.before a0 Z = true) (ws : List Jvm.Cond)  (h0 : Heap) (n0 : Nat) (Z0 : n0 ≤ h0.size) :
    MetFree l (⟨"com/example/pelt/pelt/AxisListsOverlapPinLaw", "expected", "(I)Z"⟩ : MethodName) (head1 (Jvm.Cond.code (⟨"com/example/pelt/pelt/AxisListsOverlapPinLaw", "expected", "(I)Z"⟩ : MethodName) method_3_code 5 (some .boolean) :: ws) ({ frames := 0, cells := 0, slots := 0, locals := 0 } : Room)) (fun a_ U => a_ = #[(.int (5 : Int32))] ∧ Z.Warmed39 U.vm ∧ U.heap = h0) (fun _ _ _ _ _ => True) (fun _ U o U' => ∃ v L, o = .returned v ∧ Q_ex5 Z  h0 n0 v U'.heap L ∧ FrameEnd U o U' L ({ frames := 0, cells := 0, slots := 0, locals := 0 } : Room).cells ({ frames := 0, cells := 0, slots := 0, locals := 0 } : Room).slots) := by
  refine MetFree.of_bodySF (plainFor_of_name pn_0) hisR ?_
  intro p e s m args below meth c s₁ Bd hml0 hP hK
  obtain ⟨rfl, hZ, hh⟩ := hP
  have hx := Bd.exec
  have hby := Bd.bytes
  have hlk : meth.locks = false := Bd.notSynchronized
  have hml : c.maxLocals = 5 := hml0
  have hown : s.vm.findClass "com/example/pelt/pelt/AxisListsOverlapPinLaw" = some m.cls := findClass_of_methodNamed Bd.named
  have hnm := (name_of_methodNamed Bd.named Bd.method).1
  have X0 : Stand p l e ({ frames := 0, cells := 0, slots := 0, locals := 0 } : Room) s m #[(.int (5 : Int32))] below meth c s₁ [] 0 0 := Stand.of_body Bd
  have e0 : s₁.heap = h0 := by rw [← hh, Bd.state]; rfl
  have N0 := Fr.nil n0
  show OGets p e below (OLeaves s (Q_ex5 Z  h0 n0 ) ({ frames := 0, cells := 0, slots := 0, locals := 0 } : Room).cells ({ frames := 0, cells := 0, slots := 0, locals := 0 } : Room).slots) _
  refine OGets.enter (ef_ex5 m (5 : Int32)) ?_
  show OGets p e below _ (s₁.setTop (mkF m 0 #[.val (.int (5 : Int32)), .unset, .unset, .unset, .unset] []))
  refine OGets.step (fun _ => XS.iloadN X0.here hx rfl (hb hby dm3_0) rfl) ?_
  show OGets p e below _ (s₁.setTop (mkF m 1 #[.val (.int (5 : Int32)), .unset, .unset, .unset, .unset] [(.int (5 : Int32))]))
  refine OGets.step (fun _ => XS.ifNo X0.here hx rfl (hb hby dm3_1) rfl ((if0 _ _).trans (feq (by decide : ¬ ((5 : Int32) = (0 : Int32)))).1)) ?_
  show OGets p e below _ (s₁.setTop (mkF m 4 #[.val (.int (5 : Int32)), .unset, .unset, .unset, .unset] []))
  refine OGets.step (fun _ => XS.iloadN X0.here hx rfl (hb hby dm3_4) rfl) ?_
  show OGets p e below _ (s₁.setTop (mkF m 5 #[.val (.int (5 : Int32)), .unset, .unset, .unset, .unset] [(.int (5 : Int32))]))
  refine OGets.step (fun _ => XS.iconst X0.here hx rfl (hb hby dm3_5)) ?_
  show OGets p e below _ (s₁.setTop (mkF m 6 #[.val (.int (5 : Int32)), .unset, .unset, .unset, .unset] [(.int (1 : Int32)), (.int (5 : Int32))]))
  refine OGets.step (fun _ => XS.icmpYes X0.here hx rfl (pc0 := 6) (pc' := 13) rfl (hb hby dm3_6) rfl (feq (by decide : ¬ ((5 : Int32) = (1 : Int32)))).2 (by decide) (by decide)) ?_
  show OGets p e below _ (s₁.setTop (mkF m 13 #[.val (.int (5 : Int32)), .unset, .unset, .unset, .unset] []))
  refine OGets.step (fun _ => XS.iconst X0.here hx rfl (hb hby dm3_13)) ?_
  show OGets p e below _ (s₁.setTop (mkF m 14 #[.val (.int (5 : Int32)), .unset, .unset, .unset, .unset] [(.int (0 : Int32))]))
  refine OGets.step (fun _ => XS.istoreN X0.here hx rfl (hb hby dm3_14) rfl (l' := #[.val (.int (5 : Int32)), .val (.int (0 : Int32)), .unset, .unset, .unset]) rfl) ?_
  show OGets p e below _ (s₁.setTop (mkF m 15 #[.val (.int (5 : Int32)), .val (.int (0 : Int32)), .unset, .unset, .unset] []))
  refine OGets.step (fun _ => XS.iloadN X0.here hx rfl (hb hby dm3_15) rfl) ?_
  show OGets p e below _ (s₁.setTop (mkF m 16 #[.val (.int (5 : Int32)), .val (.int (0 : Int32)), .unset, .unset, .unset] [(.int (5 : Int32))]))
  refine OGets.step (fun _ => XS.iconst X0.here hx rfl (hb hby dm3_16)) ?_
  show OGets p e below _ (s₁.setTop (mkF m 17 #[.val (.int (5 : Int32)), .val (.int (0 : Int32)), .unset, .unset, .unset] [(.int (4 : Int32)), (.int (5 : Int32))]))
  refine OGets.step (fun _ => XS.icmpNo X0.here hx rfl (hb hby dm3_17) rfl (feq (by decide : ¬ ((5 : Int32) = (4 : Int32)))).1) ?_
  show OGets p e below _ (s₁.setTop (mkF m 20 #[.val (.int (5 : Int32)), .val (.int (0 : Int32)), .unset, .unset, .unset] []))
  refine OGets.step (fun _ => XS.iloadN X0.here hx rfl (hb hby dm3_20) rfl) ?_
  show OGets p e below _ (s₁.setTop (mkF m 21 #[.val (.int (5 : Int32)), .val (.int (0 : Int32)), .unset, .unset, .unset] [(.int (5 : Int32))]))
  refine OGets.step (fun _ => XS.iconst X0.here hx rfl (hb hby dm3_21)) ?_
  show OGets p e below _ (s₁.setTop (mkF m 22 #[.val (.int (5 : Int32)), .val (.int (0 : Int32)), .unset, .unset, .unset] [(.int (5 : Int32)), (.int (5 : Int32))]))
  refine OGets.step (fun _ => XS.icmpNo X0.here hx rfl (hb hby dm3_22) rfl (teq (by decide : (5 : Int32) = (5 : Int32))).2) ?_
  show OGets p e below _ (s₁.setTop (mkF m 25 #[.val (.int (5 : Int32)), .val (.int (0 : Int32)), .unset, .unset, .unset] []))
  refine OGets.step (fun _ => XS.iconst X0.here hx rfl (hb hby dm3_25)) ?_
  show OGets p e below _ (s₁.setTop (mkF m 26 #[.val (.int (5 : Int32)), .val (.int (0 : Int32)), .unset, .unset, .unset] [(.int (1 : Int32))]))
  refine OGets.step (fun _ => XS.goto X0.here hx rfl (pc0 := 26) (pc' := 30) rfl (hb hby dm3_26) (by decide) (by decide)) ?_
  show OGets p e below _ (s₁.setTop (mkF m 30 #[.val (.int (5 : Int32)), .val (.int (0 : Int32)), .unset, .unset, .unset] [(.int (1 : Int32))]))
  refine OGets.step (fun _ => XS.istoreN X0.here hx rfl (hb hby dm3_30) rfl (l' := #[.val (.int (5 : Int32)), .val (.int (0 : Int32)), .val (.int (1 : Int32)), .unset, .unset]) rfl) ?_
  show OGets p e below _ (s₁.setTop (mkF m 31 #[.val (.int (5 : Int32)), .val (.int (0 : Int32)), .val (.int (1 : Int32)), .unset, .unset] []))
  refine OGets.step (fun _ => XS.iloadN X0.here hx rfl (hb hby dm3_31) rfl) ?_
  show OGets p e below _ (s₁.setTop (mkF m 32 #[.val (.int (5 : Int32)), .val (.int (0 : Int32)), .val (.int (1 : Int32)), .unset, .unset] [(.int (5 : Int32))]))
  refine OGets.step (fun _ => XS.bipush X0.here hx rfl (hb hby dm3_32)) ?_
  show OGets p e below _ (s₁.setTop (mkF m 34 #[.val (.int (5 : Int32)), .val (.int (0 : Int32)), .val (.int (1 : Int32)), .unset, .unset] [(.int (6 : Int32)), (.int (5 : Int32))]))
  refine OGets.step (fun _ => XS.icmpNo X0.here hx rfl (hb hby dm3_34) rfl (feq (by decide : ¬ ((5 : Int32) = (6 : Int32)))).1) ?_
  show OGets p e below _ (s₁.setTop (mkF m 37 #[.val (.int (5 : Int32)), .val (.int (0 : Int32)), .val (.int (1 : Int32)), .unset, .unset] []))
  refine OGets.step (fun _ => XS.iloadN X0.here hx rfl (hb hby dm3_37) rfl) ?_
  show OGets p e below _ (s₁.setTop (mkF m 38 #[.val (.int (5 : Int32)), .val (.int (0 : Int32)), .val (.int (1 : Int32)), .unset, .unset] [(.int (5 : Int32))]))
  refine OGets.step (fun _ => XS.bipush X0.here hx rfl (hb hby dm3_38)) ?_
  show OGets p e below _ (s₁.setTop (mkF m 40 #[.val (.int (5 : Int32)), .val (.int (0 : Int32)), .val (.int (1 : Int32)), .unset, .unset] [(.int (7 : Int32)), (.int (5 : Int32))]))
  refine OGets.step (fun _ => XS.icmpYes X0.here hx rfl (pc0 := 40) (pc' := 47) rfl (hb hby dm3_40) rfl (feq (by decide : ¬ ((5 : Int32) = (7 : Int32)))).2 (by decide) (by decide)) ?_
  show OGets p e below _ (s₁.setTop (mkF m 47 #[.val (.int (5 : Int32)), .val (.int (0 : Int32)), .val (.int (1 : Int32)), .unset, .unset] []))
  refine OGets.step (fun _ => XS.iconst X0.here hx rfl (hb hby dm3_47)) ?_
  show OGets p e below _ (s₁.setTop (mkF m 48 #[.val (.int (5 : Int32)), .val (.int (0 : Int32)), .val (.int (1 : Int32)), .unset, .unset] [(.int (0 : Int32))]))
  refine OGets.step (fun _ => XS.istoreN X0.here hx rfl (hb hby dm3_48) rfl (l' := #[.val (.int (5 : Int32)), .val (.int (0 : Int32)), .val (.int (1 : Int32)), .val (.int (0 : Int32)), .unset]) rfl) ?_
  show OGets p e below _ (s₁.setTop (mkF m 49 #[.val (.int (5 : Int32)), .val (.int (0 : Int32)), .val (.int (1 : Int32)), .val (.int (0 : Int32)), .unset] []))
  refine OGets.step (fun _ => XS.iloadN X0.here hx rfl (hb hby dm3_49) rfl) ?_
  show OGets p e below _ (s₁.setTop (mkF m 50 #[.val (.int (5 : Int32)), .val (.int (0 : Int32)), .val (.int (1 : Int32)), .val (.int (0 : Int32)), .unset] [(.int (5 : Int32))]))
  refine OGets.step (fun _ => XS.bipush X0.here hx rfl (hb hby dm3_50)) ?_
  show OGets p e below _ (s₁.setTop (mkF m 52 #[.val (.int (5 : Int32)), .val (.int (0 : Int32)), .val (.int (1 : Int32)), .val (.int (0 : Int32)), .unset] [(.int (10 : Int32)), (.int (5 : Int32))]))
  refine OGets.step (fun _ => XS.icmpNo X0.here hx rfl (hb hby dm3_52) rfl (feq (by decide : ¬ ((5 : Int32) = (10 : Int32)))).1) ?_
  show OGets p e below _ (s₁.setTop (mkF m 55 #[.val (.int (5 : Int32)), .val (.int (0 : Int32)), .val (.int (1 : Int32)), .val (.int (0 : Int32)), .unset] []))
  refine OGets.step (fun _ => XS.iloadN X0.here hx rfl (hb hby dm3_55) rfl) ?_
  show OGets p e below _ (s₁.setTop (mkF m 56 #[.val (.int (5 : Int32)), .val (.int (0 : Int32)), .val (.int (1 : Int32)), .val (.int (0 : Int32)), .unset] [(.int (5 : Int32))]))
  refine OGets.step (fun _ => XS.bipush X0.here hx rfl (hb hby dm3_56)) ?_
  show OGets p e below _ (s₁.setTop (mkF m 58 #[.val (.int (5 : Int32)), .val (.int (0 : Int32)), .val (.int (1 : Int32)), .val (.int (0 : Int32)), .unset] [(.int (11 : Int32)), (.int (5 : Int32))]))
  refine OGets.step (fun _ => XS.icmpYes X0.here hx rfl (pc0 := 58) (pc' := 65) rfl (hb hby dm3_58) rfl (feq (by decide : ¬ ((5 : Int32) = (11 : Int32)))).2 (by decide) (by decide)) ?_
  show OGets p e below _ (s₁.setTop (mkF m 65 #[.val (.int (5 : Int32)), .val (.int (0 : Int32)), .val (.int (1 : Int32)), .val (.int (0 : Int32)), .unset] []))
  refine OGets.step (fun _ => XS.iconst X0.here hx rfl (hb hby dm3_65)) ?_
  show OGets p e below _ (s₁.setTop (mkF m 66 #[.val (.int (5 : Int32)), .val (.int (0 : Int32)), .val (.int (1 : Int32)), .val (.int (0 : Int32)), .unset] [(.int (0 : Int32))]))
  refine OGets.step (fun _ => XS.istore X0.here hx rfl (hb hby dm3_66) rfl (l' := #[.val (.int (5 : Int32)), .val (.int (0 : Int32)), .val (.int (1 : Int32)), .val (.int (0 : Int32)), .val (.int (0 : Int32))]) rfl) ?_
  show OGets p e below _ (s₁.setTop (mkF m 68 #[.val (.int (5 : Int32)), .val (.int (0 : Int32)), .val (.int (1 : Int32)), .val (.int (0 : Int32)), .val (.int (0 : Int32))] []))
  refine OGets.step (fun _ => XS.iloadN X0.here hx rfl (hb hby dm3_68) rfl) ?_
  show OGets p e below _ (s₁.setTop (mkF m 69 #[.val (.int (5 : Int32)), .val (.int (0 : Int32)), .val (.int (1 : Int32)), .val (.int (0 : Int32)), .val (.int (0 : Int32))] [(.int (0 : Int32))]))
  refine OGets.step (fun _ => XS.ifNo X0.here hx rfl (hb hby dm3_69) rfl ((if0 _ _).trans (teq (by decide : (0 : Int32) = (0 : Int32))).2)) ?_
  show OGets p e below _ (s₁.setTop (mkF m 72 #[.val (.int (5 : Int32)), .val (.int (0 : Int32)), .val (.int (1 : Int32)), .val (.int (0 : Int32)), .val (.int (0 : Int32))] []))
  refine OGets.step (fun _ => XS.iloadN X0.here hx rfl (hb hby dm3_72) rfl) ?_
  show OGets p e below _ (s₁.setTop (mkF m 73 #[.val (.int (5 : Int32)), .val (.int (0 : Int32)), .val (.int (1 : Int32)), .val (.int (0 : Int32)), .val (.int (0 : Int32))] [(.int (1 : Int32))]))
  refine OGets.step (fun _ => XS.ifYes X0.here hx rfl (pc0 := 73) (pc' := 85) rfl (hb hby dm3_73) rfl ((if0 _ _).trans (feq (by decide : ¬ ((1 : Int32) = (0 : Int32)))).2) (by decide) (by decide)) ?_
  show OGets p e below _ (s₁.setTop (mkF m 85 #[.val (.int (5 : Int32)), .val (.int (0 : Int32)), .val (.int (1 : Int32)), .val (.int (0 : Int32)), .val (.int (0 : Int32))] []))
  refine OGets.step (fun _ => XS.iconst X0.here hx rfl (hb hby dm3_85)) ?_
  show OGets p e below _ (s₁.setTop (mkF m 86 #[.val (.int (5 : Int32)), .val (.int (0 : Int32)), .val (.int (1 : Int32)), .val (.int (0 : Int32)), .val (.int (0 : Int32))] [(.int (1 : Int32))]))
  refine OGets.step (fun _ => XS.goto X0.here hx rfl (pc0 := 86) (pc' := 90) rfl (hb hby dm3_86) (by decide) (by decide)) ?_
  show OGets p e below _ (s₁.setTop (mkF m 90 #[.val (.int (5 : Int32)), .val (.int (0 : Int32)), .val (.int (1 : Int32)), .val (.int (0 : Int32)), .val (.int (0 : Int32))] [(.int (1 : Int32))]))
  refine OGets.retN X0 hx hlk (t := .boolean) Bd.returns (by simp) (hb hby dm3_90) (Nat.le_of_ble_eq_true rfl) (Nat.le_of_ble_eq_true rfl) ?_
  exact ⟨rfl, rfl, e0⟩
theorem dm2_53 : decode method_2_code 53 = .ok (.iload_n 0, 1) := by decide +kernel
theorem dm2_54 : decode method_2_code 54 = .ok (.bipush 6, 2) := by decide +kernel
theorem dm2_56 : decode method_2_code 56 = .ok (.if_icmp .ne 7, 3) := by decide +kernel
theorem dm2_59 : decode method_2_code 59 = .ok (.getstatic 28, 3) := by decide +kernel
theorem dm2_62 : decode method_2_code 62 = .ok (.areturn, 1) := by decide +kernel
theorem ef_pk6 (m : MethodId) (x0 : Int32) : entryFrame m #[(.int x0)] 1 = mkF m 0 #[.val (.int x0)] [] := by first | (simp [entryFrame, mkF, argsToLocals, Value.category]; done) | rfl
def Q_pk6 (Z : State) (A : Nat → Addr) (h0 : Heap) (n0 : Nat) (v : Option Value) (h : Heap) (L : List Loc) : Prop := v = some (.ref (A 6)) ∧ L = [] ∧ h = h0
set_option maxRecDepth 65536 in
set_option maxHeartbeats 40000000 in
theorem rm_pk6 (l : Launch) (Z : State) (a0 : Array Value) (hw : ∀ d ∈ tables_1, d.before a0 Z = true) (ws : List Jvm.Cond) (A : Nat → Addr) (h0 : Heap) (n0 : Nat) (Z0 : n0 ≤ h0.size) (hS : ∀ i, i < 13 → Sta Z h0 "com/example/pelt/pelt/Axis" (nmOf i) "Lcom/example/pelt/pelt/Axis;" (.ref (A i))) (hI : ∀ i j, i < 13 → j < 13 → A i = A j → i = j) :
    MetFree l (⟨"com/example/pelt/pelt/AxisListsOverlapPinLaw", "pick", "(I)Lcom/example/pelt/pelt/Axis;"⟩ : MethodName) (head1 (Jvm.Cond.code (⟨"com/example/pelt/pelt/AxisListsOverlapPinLaw", "pick", "(I)Lcom/example/pelt/pelt/Axis;"⟩ : MethodName) method_2_code 1 (some (.object "com/example/pelt/pelt/Axis")) :: ws) ({ frames := 0, cells := 0, slots := 0, locals := 0 } : Room)) (fun a_ U => a_ = #[(.int (6 : Int32))] ∧ Z.Warmed39 U.vm ∧ U.heap = h0) (fun _ _ _ _ _ => True) (fun _ U o U' => ∃ v L, o = .returned v ∧ Q_pk6 Z A h0 n0 v U'.heap L ∧ FrameEnd U o U' L ({ frames := 0, cells := 0, slots := 0, locals := 0 } : Room).cells ({ frames := 0, cells := 0, slots := 0, locals := 0 } : Room).slots) := by
  refine MetFree.of_bodySF (plainFor_of_name pn_0) hisR ?_
  intro p e s m args below meth c s₁ Bd hml0 hP hK
  obtain ⟨rfl, hZ, hh⟩ := hP
  have hx := Bd.exec
  have hby := Bd.bytes
  have hlk : meth.locks = false := Bd.notSynchronized
  have hml : c.maxLocals = 1 := hml0
  have hown : s.vm.findClass "com/example/pelt/pelt/AxisListsOverlapPinLaw" = some m.cls := findClass_of_methodNamed Bd.named
  have hnm := (name_of_methodNamed Bd.named Bd.method).1
  have X0 : Stand p l e ({ frames := 0, cells := 0, slots := 0, locals := 0 } : Room) s m #[(.int (6 : Int32))] below meth c s₁ [] 0 0 := Stand.of_body Bd
  have e0 : s₁.heap = h0 := by rw [← hh, Bd.state]; rfl
  have N0 := Fr.nil n0
  show OGets p e below (OLeaves s (Q_pk6 Z A h0 n0 ) ({ frames := 0, cells := 0, slots := 0, locals := 0 } : Room).cells ({ frames := 0, cells := 0, slots := 0, locals := 0 } : Room).slots) _
  refine OGets.enter (ef_pk6 m (6 : Int32)) ?_
  show OGets p e below _ (s₁.setTop (mkF m 0 #[.val (.int (6 : Int32))] []))
  refine OGets.step (fun _ => XS.iloadN X0.here hx rfl (hb hby dm2_0) rfl) ?_
  show OGets p e below _ (s₁.setTop (mkF m 1 #[.val (.int (6 : Int32))] [(.int (6 : Int32))]))
  refine OGets.step (fun _ => XS.ifYes X0.here hx rfl (pc0 := 1) (pc' := 8) rfl (hb hby dm2_1) rfl ((if0 _ _).trans (feq (by decide : ¬ ((6 : Int32) = (0 : Int32)))).2) (by decide) (by decide)) ?_
  show OGets p e below _ (s₁.setTop (mkF m 8 #[.val (.int (6 : Int32))] []))
  refine OGets.step (fun _ => XS.iloadN X0.here hx rfl (hb hby dm2_8) rfl) ?_
  show OGets p e below _ (s₁.setTop (mkF m 9 #[.val (.int (6 : Int32))] [(.int (6 : Int32))]))
  refine OGets.step (fun _ => XS.iconst X0.here hx rfl (hb hby dm2_9)) ?_
  show OGets p e below _ (s₁.setTop (mkF m 10 #[.val (.int (6 : Int32))] [(.int (1 : Int32)), (.int (6 : Int32))]))
  refine OGets.step (fun _ => XS.icmpYes X0.here hx rfl (pc0 := 10) (pc' := 17) rfl (hb hby dm2_10) rfl (feq (by decide : ¬ ((6 : Int32) = (1 : Int32)))).2 (by decide) (by decide)) ?_
  show OGets p e below _ (s₁.setTop (mkF m 17 #[.val (.int (6 : Int32))] []))
  refine OGets.step (fun _ => XS.iloadN X0.here hx rfl (hb hby dm2_17) rfl) ?_
  show OGets p e below _ (s₁.setTop (mkF m 18 #[.val (.int (6 : Int32))] [(.int (6 : Int32))]))
  refine OGets.step (fun _ => XS.iconst X0.here hx rfl (hb hby dm2_18)) ?_
  show OGets p e below _ (s₁.setTop (mkF m 19 #[.val (.int (6 : Int32))] [(.int (2 : Int32)), (.int (6 : Int32))]))
  refine OGets.step (fun _ => XS.icmpYes X0.here hx rfl (pc0 := 19) (pc' := 26) rfl (hb hby dm2_19) rfl (feq (by decide : ¬ ((6 : Int32) = (2 : Int32)))).2 (by decide) (by decide)) ?_
  show OGets p e below _ (s₁.setTop (mkF m 26 #[.val (.int (6 : Int32))] []))
  refine OGets.step (fun _ => XS.iloadN X0.here hx rfl (hb hby dm2_26) rfl) ?_
  show OGets p e below _ (s₁.setTop (mkF m 27 #[.val (.int (6 : Int32))] [(.int (6 : Int32))]))
  refine OGets.step (fun _ => XS.iconst X0.here hx rfl (hb hby dm2_27)) ?_
  show OGets p e below _ (s₁.setTop (mkF m 28 #[.val (.int (6 : Int32))] [(.int (3 : Int32)), (.int (6 : Int32))]))
  refine OGets.step (fun _ => XS.icmpYes X0.here hx rfl (pc0 := 28) (pc' := 35) rfl (hb hby dm2_28) rfl (feq (by decide : ¬ ((6 : Int32) = (3 : Int32)))).2 (by decide) (by decide)) ?_
  show OGets p e below _ (s₁.setTop (mkF m 35 #[.val (.int (6 : Int32))] []))
  refine OGets.step (fun _ => XS.iloadN X0.here hx rfl (hb hby dm2_35) rfl) ?_
  show OGets p e below _ (s₁.setTop (mkF m 36 #[.val (.int (6 : Int32))] [(.int (6 : Int32))]))
  refine OGets.step (fun _ => XS.iconst X0.here hx rfl (hb hby dm2_36)) ?_
  show OGets p e below _ (s₁.setTop (mkF m 37 #[.val (.int (6 : Int32))] [(.int (4 : Int32)), (.int (6 : Int32))]))
  refine OGets.step (fun _ => XS.icmpYes X0.here hx rfl (pc0 := 37) (pc' := 44) rfl (hb hby dm2_37) rfl (feq (by decide : ¬ ((6 : Int32) = (4 : Int32)))).2 (by decide) (by decide)) ?_
  show OGets p e below _ (s₁.setTop (mkF m 44 #[.val (.int (6 : Int32))] []))
  refine OGets.step (fun _ => XS.iloadN X0.here hx rfl (hb hby dm2_44) rfl) ?_
  show OGets p e below _ (s₁.setTop (mkF m 45 #[.val (.int (6 : Int32))] [(.int (6 : Int32))]))
  refine OGets.step (fun _ => XS.iconst X0.here hx rfl (hb hby dm2_45)) ?_
  show OGets p e below _ (s₁.setTop (mkF m 46 #[.val (.int (6 : Int32))] [(.int (5 : Int32)), (.int (6 : Int32))]))
  refine OGets.step (fun _ => XS.icmpYes X0.here hx rfl (pc0 := 46) (pc' := 53) rfl (hb hby dm2_46) rfl (feq (by decide : ¬ ((6 : Int32) = (5 : Int32)))).2 (by decide) (by decide)) ?_
  show OGets p e below _ (s₁.setTop (mkF m 53 #[.val (.int (6 : Int32))] []))
  refine OGets.step (fun _ => XS.iloadN X0.here hx rfl (hb hby dm2_53) rfl) ?_
  show OGets p e below _ (s₁.setTop (mkF m 54 #[.val (.int (6 : Int32))] [(.int (6 : Int32))]))
  refine OGets.step (fun _ => XS.bipush X0.here hx rfl (hb hby dm2_54)) ?_
  show OGets p e below _ (s₁.setTop (mkF m 56 #[.val (.int (6 : Int32))] [(.int (6 : Int32)), (.int (6 : Int32))]))
  refine OGets.step (fun _ => XS.icmpNo X0.here hx rfl (hb hby dm2_56) rfl (teq (by decide : (6 : Int32) = (6 : Int32))).2) ?_
  show OGets p e below _ (s₁.setTop (mkF m 59 #[.val (.int (6 : Int32))] []))
  obtain ⟨T137, X137, e137, st137⟩ := getS2 X0 hx hZ hown (host := "") (Or.inl (hw _ (List.mem_of_getElem? (i := 41) rfl))) Via.refl e0 (show Sta Z h0 "com/example/pelt/pelt/Axis" "FOLLOWING" "Lcom/example/pelt/pelt/Axis;" (.ref (A 6)) from hS 6 (by decide)) (g := (mkF m 59 #[.val (.int (6 : Int32))] [])) rfl (hb hby dm2_59)
  refine OGets.step st137 ?_
  show OGets p e below _ (T137.setTop (mkF m 62 #[.val (.int (6 : Int32))] [(.ref (A 6))]))
  refine OGets.retA X137 hx hlk (t := (.object "com/example/pelt/pelt/Axis")) Bd.returns rfl rfl rfl (hb hby dm2_62) (Nat.le_of_ble_eq_true rfl) (Nat.le_of_ble_eq_true rfl) ?_
  exact ⟨rfl, rfl, e137⟩
theorem ef_lo6 (m : MethodId) (x0 : Addr) : entryFrame m #[(.ref x0)] 1 = mkF m 0 #[.val (.ref x0)] [] := by first | (simp [entryFrame, mkF, argsToLocals, Value.category]; done) | rfl
def Q_lo6 (Z : State) (A : Nat → Addr) (h0 : Heap) (n0 : Nat) (v : Option Value) (h : Heap) (L : List Loc) : Prop := v = some (.int (1 : Int32)) ∧ L = [] ∧ h = h0
set_option maxRecDepth 65536 in
set_option maxHeartbeats 40000000 in
theorem rm_lo6 (l : Launch) (Z : State) (a0 : Array Value) (hw : ∀ d ∈ tables_1, d.before a0 Z = true) (ws : List Jvm.Cond) (A : Nat → Addr) (h0 : Heap) (n0 : Nat) (Z0 : n0 ≤ h0.size) (hS : ∀ i, i < 13 → Sta Z h0 "com/example/pelt/pelt/Axis" (nmOf i) "Lcom/example/pelt/pelt/Axis;" (.ref (A i))) (hI : ∀ i j, i < 13 → j < 13 → A i = A j → i = j) :
    MetFree l (⟨"com/example/pelt/pelt/Axis", "listsOverlap", "()Z"⟩ : MethodName) (head1 (Jvm.Cond.code (⟨"com/example/pelt/pelt/Axis", "listsOverlap", "()Z"⟩ : MethodName) prog_3_method_15_code 1 (some .boolean) :: ws) ({ frames := 0, cells := 0, slots := 0, locals := 0 } : Room)) (fun a_ U => a_ = #[(.ref (A 6))] ∧ Z.Warmed39 U.vm ∧ U.heap = h0) (fun _ _ _ _ _ => True) (fun _ U o U' => ∃ v L, o = .returned v ∧ Q_lo6 Z A h0 n0 v U'.heap L ∧ FrameEnd U o U' L ({ frames := 0, cells := 0, slots := 0, locals := 0 } : Room).cells ({ frames := 0, cells := 0, slots := 0, locals := 0 } : Room).slots) := by
  refine MetFree.of_bodySF (plainFor_of_name pn_1) hisR ?_
  intro p e s m args below meth c s₁ Bd hml0 hP hK
  obtain ⟨rfl, hZ, hh⟩ := hP
  have hx := Bd.exec
  have hby := Bd.bytes
  have hlk : meth.locks = false := Bd.notSynchronized
  have hml : c.maxLocals = 1 := hml0
  have hown : s.vm.findClass "com/example/pelt/pelt/Axis" = some m.cls := findClass_of_methodNamed Bd.named
  have hnm := (name_of_methodNamed Bd.named Bd.method).1
  have X0 : Stand p l e ({ frames := 0, cells := 0, slots := 0, locals := 0 } : Room) s m #[(.ref (A 6))] below meth c s₁ [] 0 0 := Stand.of_body Bd
  have e0 : s₁.heap = h0 := by rw [← hh, Bd.state]; rfl
  have N0 := Fr.nil n0
  show OGets p e below (OLeaves s (Q_lo6 Z A h0 n0 ) ({ frames := 0, cells := 0, slots := 0, locals := 0 } : Room).cells ({ frames := 0, cells := 0, slots := 0, locals := 0 } : Room).slots) _
  refine OGets.enter (ef_lo6 m (A 6)) ?_
  show OGets p e below _ (s₁.setTop (mkF m 0 #[.val (.ref (A 6))] []))
  refine OGets.step (fun _ => XS.aloadN X0.here hx rfl (hb hby d3m15_0) rfl rfl) ?_
  show OGets p e below _ (s₁.setTop (mkF m 1 #[.val (.ref (A 6))] [(.ref (A 6))]))
  obtain ⟨T138, X138, e138, st138⟩ := getS2 X0 hx hZ hown (host := "") (Or.inl (hw _ (List.mem_of_getElem? (i := 13) rfl))) Via.refl e0 (show Sta Z h0 "com/example/pelt/pelt/Axis" "CHILD" "Lcom/example/pelt/pelt/Axis;" (.ref (A 3)) from hS 3 (by decide)) (g := (mkF m 1 #[.val (.ref (A 6))] [(.ref (A 6))])) rfl (hb hby d3m15_1)
  refine OGets.step st138 ?_
  show OGets p e below _ (T138.setTop (mkF m 4 #[.val (.ref (A 6))] [(.ref (A 3)), (.ref (A 6))]))
  refine OGets.step (fun _ => Jvm.RoadKit.acmp (g := (mkF m 4 #[.val (.ref (A 6))] [(.ref (A 3)), (.ref (A 6))])) X138 hx rfl rfl rfl (pc0 := 4) (pc' := 7) (same := false) rfl (hb hby d3m15_4) rfl (decide_eq_false fun q => absurd (hI 6 3 (by decide) (by decide) (Value.ref.inj q)) (by decide)) (by decide) (by decide)) ?_
  show OGets p e below _ (T138.setTop (mkF m 7 #[.val (.ref (A 6))] []))
  refine OGets.step (fun _ => XS.aloadN X138.here hx rfl (hb hby d3m15_7) rfl rfl) ?_
  show OGets p e below _ (T138.setTop (mkF m 8 #[.val (.ref (A 6))] [(.ref (A 6))]))
  obtain ⟨T139, X139, e139, st139⟩ := getS2 X138 hx hZ hown (host := "") (Or.inl (hw _ (List.mem_of_getElem? (i := 15) rfl))) Via.refl e138 (show Sta Z h0 "com/example/pelt/pelt/Axis" "ATTRIBUTE" "Lcom/example/pelt/pelt/Axis;" (.ref (A 2)) from hS 2 (by decide)) (g := (mkF m 8 #[.val (.ref (A 6))] [(.ref (A 6))])) rfl (hb hby d3m15_8)
  refine OGets.step st139 ?_
  show OGets p e below _ (T139.setTop (mkF m 11 #[.val (.ref (A 6))] [(.ref (A 2)), (.ref (A 6))]))
  refine OGets.step (fun _ => Jvm.RoadKit.acmp (g := (mkF m 11 #[.val (.ref (A 6))] [(.ref (A 2)), (.ref (A 6))])) X139 hx rfl rfl rfl (pc0 := 11) (pc' := 14) (same := false) rfl (hb hby d3m15_11) rfl (decide_eq_false fun q => absurd (hI 6 2 (by decide) (by decide) (Value.ref.inj q)) (by decide)) (by decide) (by decide)) ?_
  show OGets p e below _ (T139.setTop (mkF m 14 #[.val (.ref (A 6))] []))
  refine OGets.step (fun _ => XS.aloadN X139.here hx rfl (hb hby d3m15_14) rfl rfl) ?_
  show OGets p e below _ (T139.setTop (mkF m 15 #[.val (.ref (A 6))] [(.ref (A 6))]))
  obtain ⟨T140, X140, e140, st140⟩ := getS2 X139 hx hZ hown (host := "") (Or.inl (hw _ (List.mem_of_getElem? (i := 17) rfl))) Via.refl e139 (show Sta Z h0 "com/example/pelt/pelt/Axis" "NAMESPACE" "Lcom/example/pelt/pelt/Axis;" (.ref (A 8)) from hS 8 (by decide)) (g := (mkF m 15 #[.val (.ref (A 6))] [(.ref (A 6))])) rfl (hb hby d3m15_15)
  refine OGets.step st140 ?_
  show OGets p e below _ (T140.setTop (mkF m 18 #[.val (.ref (A 6))] [(.ref (A 8)), (.ref (A 6))]))
  refine OGets.step (fun _ => Jvm.RoadKit.acmp (g := (mkF m 18 #[.val (.ref (A 6))] [(.ref (A 8)), (.ref (A 6))])) X140 hx rfl rfl rfl (pc0 := 18) (pc' := 21) (same := false) rfl (hb hby d3m15_18) rfl (decide_eq_false fun q => absurd (hI 6 8 (by decide) (by decide) (Value.ref.inj q)) (by decide)) (by decide) (by decide)) ?_
  show OGets p e below _ (T140.setTop (mkF m 21 #[.val (.ref (A 6))] []))
  refine OGets.step (fun _ => XS.aloadN X140.here hx rfl (hb hby d3m15_21) rfl rfl) ?_
  show OGets p e below _ (T140.setTop (mkF m 22 #[.val (.ref (A 6))] [(.ref (A 6))]))
  obtain ⟨T141, X141, e141, st141⟩ := getS2 X140 hx hZ hown (host := "") (Or.inl (hw _ (List.mem_of_getElem? (i := 19) rfl))) Via.refl e140 (show Sta Z h0 "com/example/pelt/pelt/Axis" "PARENT" "Lcom/example/pelt/pelt/Axis;" (.ref (A 9)) from hS 9 (by decide)) (g := (mkF m 22 #[.val (.ref (A 6))] [(.ref (A 6))])) rfl (hb hby d3m15_22)
  refine OGets.step st141 ?_
  show OGets p e below _ (T141.setTop (mkF m 25 #[.val (.ref (A 6))] [(.ref (A 9)), (.ref (A 6))]))
  refine OGets.step (fun _ => Jvm.RoadKit.acmp (g := (mkF m 25 #[.val (.ref (A 6))] [(.ref (A 9)), (.ref (A 6))])) X141 hx rfl rfl rfl (pc0 := 25) (pc' := 28) (same := false) rfl (hb hby d3m15_25) rfl (decide_eq_false fun q => absurd (hI 6 9 (by decide) (by decide) (Value.ref.inj q)) (by decide)) (by decide) (by decide)) ?_
  show OGets p e below _ (T141.setTop (mkF m 28 #[.val (.ref (A 6))] []))
  refine OGets.step (fun _ => XS.aloadN X141.here hx rfl (hb hby d3m15_28) rfl rfl) ?_
  show OGets p e below _ (T141.setTop (mkF m 29 #[.val (.ref (A 6))] [(.ref (A 6))]))
  obtain ⟨T142, X142, e142, st142⟩ := getS2 X141 hx hZ hown (host := "") (Or.inl (hw _ (List.mem_of_getElem? (i := 21) rfl))) Via.refl e141 (show Sta Z h0 "com/example/pelt/pelt/Axis" "SELF" "Lcom/example/pelt/pelt/Axis;" (.ref (A 12)) from hS 12 (by decide)) (g := (mkF m 29 #[.val (.ref (A 6))] [(.ref (A 6))])) rfl (hb hby d3m15_29)
  refine OGets.step st142 ?_
  show OGets p e below _ (T142.setTop (mkF m 32 #[.val (.ref (A 6))] [(.ref (A 12)), (.ref (A 6))]))
  refine OGets.step (fun _ => Jvm.RoadKit.acmp (g := (mkF m 32 #[.val (.ref (A 6))] [(.ref (A 12)), (.ref (A 6))])) X142 hx rfl rfl rfl (pc0 := 32) (pc' := 35) (same := false) rfl (hb hby d3m15_32) rfl (decide_eq_false fun q => absurd (hI 6 12 (by decide) (by decide) (Value.ref.inj q)) (by decide)) (by decide) (by decide)) ?_
  show OGets p e below _ (T142.setTop (mkF m 35 #[.val (.ref (A 6))] []))
  refine OGets.step (fun _ => XS.iconst X142.here hx rfl (hb hby d3m15_35)) ?_
  show OGets p e below _ (T142.setTop (mkF m 36 #[.val (.ref (A 6))] [(.int (1 : Int32))]))
  refine OGets.step (fun _ => XS.goto X142.here hx rfl (pc0 := 36) (pc' := 40) rfl (hb hby d3m15_36) (by decide) (by decide)) ?_
  show OGets p e below _ (T142.setTop (mkF m 40 #[.val (.ref (A 6))] [(.int (1 : Int32))]))
  refine OGets.retN X142 hx hlk (t := .boolean) Bd.returns (by simp) (hb hby d3m15_40) (Nat.le_of_ble_eq_true rfl) (Nat.le_of_ble_eq_true rfl) ?_
  exact ⟨rfl, rfl, e142⟩
theorem ef_rv6 (m : MethodId) (x0 : Addr) : entryFrame m #[(.ref x0)] 1 = mkF m 0 #[.val (.ref x0)] [] := by first | (simp [entryFrame, mkF, argsToLocals, Value.category]; done) | rfl
def Q_rv6 (Z : State) (A : Nat → Addr) (h0 : Heap) (n0 : Nat) (v : Option Value) (h : Heap) (L : List Loc) : Prop := v = some (.int (0 : Int32)) ∧ L = [] ∧ h = h0
set_option maxRecDepth 65536 in
set_option maxHeartbeats 40000000 in
theorem rm_rv6 (l : Launch) (Z : State) (a0 : Array Value) (hw : ∀ d ∈ tables_1, d.before a0 Z = true) (ws : List Jvm.Cond) (A : Nat → Addr) (h0 : Heap) (n0 : Nat) (Z0 : n0 ≤ h0.size) (hS : ∀ i, i < 13 → Sta Z h0 "com/example/pelt/pelt/Axis" (nmOf i) "Lcom/example/pelt/pelt/Axis;" (.ref (A i))) (hI : ∀ i j, i < 13 → j < 13 → A i = A j → i = j) :
    MetFree l (⟨"com/example/pelt/pelt/Axis", "isReverse", "()Z"⟩ : MethodName) (head1 (Jvm.Cond.code (⟨"com/example/pelt/pelt/Axis", "isReverse", "()Z"⟩ : MethodName) prog_3_method_6_code 1 (some .boolean) :: ws) ({ frames := 0, cells := 0, slots := 0, locals := 0 } : Room)) (fun a_ U => a_ = #[(.ref (A 6))] ∧ Z.Warmed39 U.vm ∧ U.heap = h0) (fun _ _ _ _ _ => True) (fun _ U o U' => ∃ v L, o = .returned v ∧ Q_rv6 Z A h0 n0 v U'.heap L ∧ FrameEnd U o U' L ({ frames := 0, cells := 0, slots := 0, locals := 0 } : Room).cells ({ frames := 0, cells := 0, slots := 0, locals := 0 } : Room).slots) := by
  refine MetFree.of_bodySF (plainFor_of_name pn_1) hisR ?_
  intro p e s m args below meth c s₁ Bd hml0 hP hK
  obtain ⟨rfl, hZ, hh⟩ := hP
  have hx := Bd.exec
  have hby := Bd.bytes
  have hlk : meth.locks = false := Bd.notSynchronized
  have hml : c.maxLocals = 1 := hml0
  have hown : s.vm.findClass "com/example/pelt/pelt/Axis" = some m.cls := findClass_of_methodNamed Bd.named
  have hnm := (name_of_methodNamed Bd.named Bd.method).1
  have X0 : Stand p l e ({ frames := 0, cells := 0, slots := 0, locals := 0 } : Room) s m #[(.ref (A 6))] below meth c s₁ [] 0 0 := Stand.of_body Bd
  have e0 : s₁.heap = h0 := by rw [← hh, Bd.state]; rfl
  have N0 := Fr.nil n0
  show OGets p e below (OLeaves s (Q_rv6 Z A h0 n0 ) ({ frames := 0, cells := 0, slots := 0, locals := 0 } : Room).cells ({ frames := 0, cells := 0, slots := 0, locals := 0 } : Room).slots) _
  refine OGets.enter (ef_rv6 m (A 6)) ?_
  show OGets p e below _ (s₁.setTop (mkF m 0 #[.val (.ref (A 6))] []))
  refine OGets.step (fun _ => XS.aloadN X0.here hx rfl (hb hby d3m6_0) rfl rfl) ?_
  show OGets p e below _ (s₁.setTop (mkF m 1 #[.val (.ref (A 6))] [(.ref (A 6))]))
  obtain ⟨T143, X143, e143, st143⟩ := getS2 X0 hx hZ hown (host := "") (Or.inl (hw _ (List.mem_of_getElem? (i := 28) rfl))) Via.refl e0 (show Sta Z h0 "com/example/pelt/pelt/Axis" "ANCESTOR" "Lcom/example/pelt/pelt/Axis;" (.ref (A 0)) from hS 0 (by decide)) (g := (mkF m 1 #[.val (.ref (A 6))] [(.ref (A 6))])) rfl (hb hby d3m6_1)
  refine OGets.step st143 ?_
  show OGets p e below _ (T143.setTop (mkF m 4 #[.val (.ref (A 6))] [(.ref (A 0)), (.ref (A 6))]))
  refine OGets.step (fun _ => Jvm.RoadKit.acmp (g := (mkF m 4 #[.val (.ref (A 6))] [(.ref (A 0)), (.ref (A 6))])) X143 hx rfl rfl rfl (pc0 := 4) (pc' := 7) (same := false) rfl (hb hby d3m6_4) rfl (decide_eq_false fun q => absurd (hI 6 0 (by decide) (by decide) (Value.ref.inj q)) (by decide)) (by decide) (by decide)) ?_
  show OGets p e below _ (T143.setTop (mkF m 7 #[.val (.ref (A 6))] []))
  refine OGets.step (fun _ => XS.aloadN X143.here hx rfl (hb hby d3m6_7) rfl rfl) ?_
  show OGets p e below _ (T143.setTop (mkF m 8 #[.val (.ref (A 6))] [(.ref (A 6))]))
  obtain ⟨T144, X144, e144, st144⟩ := getS2 X143 hx hZ hown (host := "") (Or.inl (hw _ (List.mem_of_getElem? (i := 35) rfl))) Via.refl e143 (show Sta Z h0 "com/example/pelt/pelt/Axis" "ANCESTOR_OR_SELF" "Lcom/example/pelt/pelt/Axis;" (.ref (A 1)) from hS 1 (by decide)) (g := (mkF m 8 #[.val (.ref (A 6))] [(.ref (A 6))])) rfl (hb hby d3m6_8)
  refine OGets.step st144 ?_
  show OGets p e below _ (T144.setTop (mkF m 11 #[.val (.ref (A 6))] [(.ref (A 1)), (.ref (A 6))]))
  refine OGets.step (fun _ => Jvm.RoadKit.acmp (g := (mkF m 11 #[.val (.ref (A 6))] [(.ref (A 1)), (.ref (A 6))])) X144 hx rfl rfl rfl (pc0 := 11) (pc' := 14) (same := false) rfl (hb hby d3m6_11) rfl (decide_eq_false fun q => absurd (hI 6 1 (by decide) (by decide) (Value.ref.inj q)) (by decide)) (by decide) (by decide)) ?_
  show OGets p e below _ (T144.setTop (mkF m 14 #[.val (.ref (A 6))] []))
  refine OGets.step (fun _ => XS.aloadN X144.here hx rfl (hb hby d3m6_14) rfl rfl) ?_
  show OGets p e below _ (T144.setTop (mkF m 15 #[.val (.ref (A 6))] [(.ref (A 6))]))
  obtain ⟨T145, X145, e145, st145⟩ := getS2 X144 hx hZ hown (host := "") (Or.inl (hw _ (List.mem_of_getElem? (i := 37) rfl))) Via.refl e144 (show Sta Z h0 "com/example/pelt/pelt/Axis" "PRECEDING" "Lcom/example/pelt/pelt/Axis;" (.ref (A 10)) from hS 10 (by decide)) (g := (mkF m 15 #[.val (.ref (A 6))] [(.ref (A 6))])) rfl (hb hby d3m6_15)
  refine OGets.step st145 ?_
  show OGets p e below _ (T145.setTop (mkF m 18 #[.val (.ref (A 6))] [(.ref (A 10)), (.ref (A 6))]))
  refine OGets.step (fun _ => Jvm.RoadKit.acmp (g := (mkF m 18 #[.val (.ref (A 6))] [(.ref (A 10)), (.ref (A 6))])) X145 hx rfl rfl rfl (pc0 := 18) (pc' := 21) (same := false) rfl (hb hby d3m6_18) rfl (decide_eq_false fun q => absurd (hI 6 10 (by decide) (by decide) (Value.ref.inj q)) (by decide)) (by decide) (by decide)) ?_
  show OGets p e below _ (T145.setTop (mkF m 21 #[.val (.ref (A 6))] []))
  refine OGets.step (fun _ => XS.aloadN X145.here hx rfl (hb hby d3m6_21) rfl rfl) ?_
  show OGets p e below _ (T145.setTop (mkF m 22 #[.val (.ref (A 6))] [(.ref (A 6))]))
  obtain ⟨T146, X146, e146, st146⟩ := getS2 X145 hx hZ hown (host := "") (Or.inl (hw _ (List.mem_of_getElem? (i := 39) rfl))) Via.refl e145 (show Sta Z h0 "com/example/pelt/pelt/Axis" "PRECEDING_SIBLING" "Lcom/example/pelt/pelt/Axis;" (.ref (A 11)) from hS 11 (by decide)) (g := (mkF m 22 #[.val (.ref (A 6))] [(.ref (A 6))])) rfl (hb hby d3m6_22)
  refine OGets.step st146 ?_
  show OGets p e below _ (T146.setTop (mkF m 25 #[.val (.ref (A 6))] [(.ref (A 11)), (.ref (A 6))]))
  refine OGets.step (fun _ => Jvm.RoadKit.acmp (g := (mkF m 25 #[.val (.ref (A 6))] [(.ref (A 11)), (.ref (A 6))])) X146 hx rfl rfl rfl (pc0 := 25) (pc' := 32) (same := false) rfl (hb hby d3m6_25) rfl (decide_eq_false fun q => absurd (hI 6 11 (by decide) (by decide) (Value.ref.inj q)) (by decide)) (by decide) (by decide)) ?_
  show OGets p e below _ (T146.setTop (mkF m 32 #[.val (.ref (A 6))] []))
  refine OGets.step (fun _ => XS.iconst X146.here hx rfl (hb hby d3m6_32)) ?_
  show OGets p e below _ (T146.setTop (mkF m 33 #[.val (.ref (A 6))] [(.int (0 : Int32))]))
  refine OGets.retN X146 hx hlk (t := .boolean) Bd.returns (by simp) (hb hby d3m6_33) (Nat.le_of_ble_eq_true rfl) (Nat.le_of_ble_eq_true rfl) ?_
  exact ⟨rfl, rfl, e146⟩
theorem dm3_43 : decode method_3_code 43 = .ok (.iconst 1, 1) := by decide +kernel
theorem dm3_44 : decode method_3_code 44 = .ok (.goto 4, 3) := by decide +kernel
theorem ef_ex6 (m : MethodId) (x0 : Int32) : entryFrame m #[(.int x0)] 5 = mkF m 0 #[.val (.int x0), .unset, .unset, .unset, .unset] [] := by first | (simp [entryFrame, mkF, argsToLocals, Value.category]; done) | rfl
def Q_ex6 (Z : State)  (h0 : Heap) (n0 : Nat) (v : Option Value) (h : Heap) (L : List Loc) : Prop := v = some (.int (1 : Int32)) ∧ L = [] ∧ h = h0
set_option maxRecDepth 65536 in
set_option maxHeartbeats 40000000 in
theorem rm_ex6 (l : Launch) (Z : State) (a0 : Array Value) (hw : ∀ d ∈ tables_1, d.before a0 Z = true) (ws : List Jvm.Cond)  (h0 : Heap) (n0 : Nat) (Z0 : n0 ≤ h0.size) :
    MetFree l (⟨"com/example/pelt/pelt/AxisListsOverlapPinLaw", "expected", "(I)Z"⟩ : MethodName) (head1 (Jvm.Cond.code (⟨"com/example/pelt/pelt/AxisListsOverlapPinLaw", "expected", "(I)Z"⟩ : MethodName) method_3_code 5 (some .boolean) :: ws) ({ frames := 0, cells := 0, slots := 0, locals := 0 } : Room)) (fun a_ U => a_ = #[(.int (6 : Int32))] ∧ Z.Warmed39 U.vm ∧ U.heap = h0) (fun _ _ _ _ _ => True) (fun _ U o U' => ∃ v L, o = .returned v ∧ Q_ex6 Z  h0 n0 v U'.heap L ∧ FrameEnd U o U' L ({ frames := 0, cells := 0, slots := 0, locals := 0 } : Room).cells ({ frames := 0, cells := 0, slots := 0, locals := 0 } : Room).slots) := by
  refine MetFree.of_bodySF (plainFor_of_name pn_0) hisR ?_
  intro p e s m args below meth c s₁ Bd hml0 hP hK
  obtain ⟨rfl, hZ, hh⟩ := hP
  have hx := Bd.exec
  have hby := Bd.bytes
  have hlk : meth.locks = false := Bd.notSynchronized
  have hml : c.maxLocals = 5 := hml0
  have hown : s.vm.findClass "com/example/pelt/pelt/AxisListsOverlapPinLaw" = some m.cls := findClass_of_methodNamed Bd.named
  have hnm := (name_of_methodNamed Bd.named Bd.method).1
  have X0 : Stand p l e ({ frames := 0, cells := 0, slots := 0, locals := 0 } : Room) s m #[(.int (6 : Int32))] below meth c s₁ [] 0 0 := Stand.of_body Bd
  have e0 : s₁.heap = h0 := by rw [← hh, Bd.state]; rfl
  have N0 := Fr.nil n0
  show OGets p e below (OLeaves s (Q_ex6 Z  h0 n0 ) ({ frames := 0, cells := 0, slots := 0, locals := 0 } : Room).cells ({ frames := 0, cells := 0, slots := 0, locals := 0 } : Room).slots) _
  refine OGets.enter (ef_ex6 m (6 : Int32)) ?_
  show OGets p e below _ (s₁.setTop (mkF m 0 #[.val (.int (6 : Int32)), .unset, .unset, .unset, .unset] []))
  refine OGets.step (fun _ => XS.iloadN X0.here hx rfl (hb hby dm3_0) rfl) ?_
  show OGets p e below _ (s₁.setTop (mkF m 1 #[.val (.int (6 : Int32)), .unset, .unset, .unset, .unset] [(.int (6 : Int32))]))
  refine OGets.step (fun _ => XS.ifNo X0.here hx rfl (hb hby dm3_1) rfl ((if0 _ _).trans (feq (by decide : ¬ ((6 : Int32) = (0 : Int32)))).1)) ?_
  show OGets p e below _ (s₁.setTop (mkF m 4 #[.val (.int (6 : Int32)), .unset, .unset, .unset, .unset] []))
  refine OGets.step (fun _ => XS.iloadN X0.here hx rfl (hb hby dm3_4) rfl) ?_
  show OGets p e below _ (s₁.setTop (mkF m 5 #[.val (.int (6 : Int32)), .unset, .unset, .unset, .unset] [(.int (6 : Int32))]))
  refine OGets.step (fun _ => XS.iconst X0.here hx rfl (hb hby dm3_5)) ?_
  show OGets p e below _ (s₁.setTop (mkF m 6 #[.val (.int (6 : Int32)), .unset, .unset, .unset, .unset] [(.int (1 : Int32)), (.int (6 : Int32))]))
  refine OGets.step (fun _ => XS.icmpYes X0.here hx rfl (pc0 := 6) (pc' := 13) rfl (hb hby dm3_6) rfl (feq (by decide : ¬ ((6 : Int32) = (1 : Int32)))).2 (by decide) (by decide)) ?_
  show OGets p e below _ (s₁.setTop (mkF m 13 #[.val (.int (6 : Int32)), .unset, .unset, .unset, .unset] []))
  refine OGets.step (fun _ => XS.iconst X0.here hx rfl (hb hby dm3_13)) ?_
  show OGets p e below _ (s₁.setTop (mkF m 14 #[.val (.int (6 : Int32)), .unset, .unset, .unset, .unset] [(.int (0 : Int32))]))
  refine OGets.step (fun _ => XS.istoreN X0.here hx rfl (hb hby dm3_14) rfl (l' := #[.val (.int (6 : Int32)), .val (.int (0 : Int32)), .unset, .unset, .unset]) rfl) ?_
  show OGets p e below _ (s₁.setTop (mkF m 15 #[.val (.int (6 : Int32)), .val (.int (0 : Int32)), .unset, .unset, .unset] []))
  refine OGets.step (fun _ => XS.iloadN X0.here hx rfl (hb hby dm3_15) rfl) ?_
  show OGets p e below _ (s₁.setTop (mkF m 16 #[.val (.int (6 : Int32)), .val (.int (0 : Int32)), .unset, .unset, .unset] [(.int (6 : Int32))]))
  refine OGets.step (fun _ => XS.iconst X0.here hx rfl (hb hby dm3_16)) ?_
  show OGets p e below _ (s₁.setTop (mkF m 17 #[.val (.int (6 : Int32)), .val (.int (0 : Int32)), .unset, .unset, .unset] [(.int (4 : Int32)), (.int (6 : Int32))]))
  refine OGets.step (fun _ => XS.icmpNo X0.here hx rfl (hb hby dm3_17) rfl (feq (by decide : ¬ ((6 : Int32) = (4 : Int32)))).1) ?_
  show OGets p e below _ (s₁.setTop (mkF m 20 #[.val (.int (6 : Int32)), .val (.int (0 : Int32)), .unset, .unset, .unset] []))
  refine OGets.step (fun _ => XS.iloadN X0.here hx rfl (hb hby dm3_20) rfl) ?_
  show OGets p e below _ (s₁.setTop (mkF m 21 #[.val (.int (6 : Int32)), .val (.int (0 : Int32)), .unset, .unset, .unset] [(.int (6 : Int32))]))
  refine OGets.step (fun _ => XS.iconst X0.here hx rfl (hb hby dm3_21)) ?_
  show OGets p e below _ (s₁.setTop (mkF m 22 #[.val (.int (6 : Int32)), .val (.int (0 : Int32)), .unset, .unset, .unset] [(.int (5 : Int32)), (.int (6 : Int32))]))
  refine OGets.step (fun _ => XS.icmpYes X0.here hx rfl (pc0 := 22) (pc' := 29) rfl (hb hby dm3_22) rfl (feq (by decide : ¬ ((6 : Int32) = (5 : Int32)))).2 (by decide) (by decide)) ?_
  show OGets p e below _ (s₁.setTop (mkF m 29 #[.val (.int (6 : Int32)), .val (.int (0 : Int32)), .unset, .unset, .unset] []))
  refine OGets.step (fun _ => XS.iconst X0.here hx rfl (hb hby dm3_29)) ?_
  show OGets p e below _ (s₁.setTop (mkF m 30 #[.val (.int (6 : Int32)), .val (.int (0 : Int32)), .unset, .unset, .unset] [(.int (0 : Int32))]))
  refine OGets.step (fun _ => XS.istoreN X0.here hx rfl (hb hby dm3_30) rfl (l' := #[.val (.int (6 : Int32)), .val (.int (0 : Int32)), .val (.int (0 : Int32)), .unset, .unset]) rfl) ?_
  show OGets p e below _ (s₁.setTop (mkF m 31 #[.val (.int (6 : Int32)), .val (.int (0 : Int32)), .val (.int (0 : Int32)), .unset, .unset] []))
  refine OGets.step (fun _ => XS.iloadN X0.here hx rfl (hb hby dm3_31) rfl) ?_
  show OGets p e below _ (s₁.setTop (mkF m 32 #[.val (.int (6 : Int32)), .val (.int (0 : Int32)), .val (.int (0 : Int32)), .unset, .unset] [(.int (6 : Int32))]))
  refine OGets.step (fun _ => XS.bipush X0.here hx rfl (hb hby dm3_32)) ?_
  show OGets p e below _ (s₁.setTop (mkF m 34 #[.val (.int (6 : Int32)), .val (.int (0 : Int32)), .val (.int (0 : Int32)), .unset, .unset] [(.int (6 : Int32)), (.int (6 : Int32))]))
  refine OGets.step (fun _ => XS.icmpYes X0.here hx rfl (pc0 := 34) (pc' := 43) rfl (hb hby dm3_34) rfl (teq (by decide : (6 : Int32) = (6 : Int32))).1 (by decide) (by decide)) ?_
  show OGets p e below _ (s₁.setTop (mkF m 43 #[.val (.int (6 : Int32)), .val (.int (0 : Int32)), .val (.int (0 : Int32)), .unset, .unset] []))
  refine OGets.step (fun _ => XS.iconst X0.here hx rfl (hb hby dm3_43)) ?_
  show OGets p e below _ (s₁.setTop (mkF m 44 #[.val (.int (6 : Int32)), .val (.int (0 : Int32)), .val (.int (0 : Int32)), .unset, .unset] [(.int (1 : Int32))]))
  refine OGets.step (fun _ => XS.goto X0.here hx rfl (pc0 := 44) (pc' := 48) rfl (hb hby dm3_44) (by decide) (by decide)) ?_
  show OGets p e below _ (s₁.setTop (mkF m 48 #[.val (.int (6 : Int32)), .val (.int (0 : Int32)), .val (.int (0 : Int32)), .unset, .unset] [(.int (1 : Int32))]))
  refine OGets.step (fun _ => XS.istoreN X0.here hx rfl (hb hby dm3_48) rfl (l' := #[.val (.int (6 : Int32)), .val (.int (0 : Int32)), .val (.int (0 : Int32)), .val (.int (1 : Int32)), .unset]) rfl) ?_
  show OGets p e below _ (s₁.setTop (mkF m 49 #[.val (.int (6 : Int32)), .val (.int (0 : Int32)), .val (.int (0 : Int32)), .val (.int (1 : Int32)), .unset] []))
  refine OGets.step (fun _ => XS.iloadN X0.here hx rfl (hb hby dm3_49) rfl) ?_
  show OGets p e below _ (s₁.setTop (mkF m 50 #[.val (.int (6 : Int32)), .val (.int (0 : Int32)), .val (.int (0 : Int32)), .val (.int (1 : Int32)), .unset] [(.int (6 : Int32))]))
  refine OGets.step (fun _ => XS.bipush X0.here hx rfl (hb hby dm3_50)) ?_
  show OGets p e below _ (s₁.setTop (mkF m 52 #[.val (.int (6 : Int32)), .val (.int (0 : Int32)), .val (.int (0 : Int32)), .val (.int (1 : Int32)), .unset] [(.int (10 : Int32)), (.int (6 : Int32))]))
  refine OGets.step (fun _ => XS.icmpNo X0.here hx rfl (hb hby dm3_52) rfl (feq (by decide : ¬ ((6 : Int32) = (10 : Int32)))).1) ?_
  show OGets p e below _ (s₁.setTop (mkF m 55 #[.val (.int (6 : Int32)), .val (.int (0 : Int32)), .val (.int (0 : Int32)), .val (.int (1 : Int32)), .unset] []))
  refine OGets.step (fun _ => XS.iloadN X0.here hx rfl (hb hby dm3_55) rfl) ?_
  show OGets p e below _ (s₁.setTop (mkF m 56 #[.val (.int (6 : Int32)), .val (.int (0 : Int32)), .val (.int (0 : Int32)), .val (.int (1 : Int32)), .unset] [(.int (6 : Int32))]))
  refine OGets.step (fun _ => XS.bipush X0.here hx rfl (hb hby dm3_56)) ?_
  show OGets p e below _ (s₁.setTop (mkF m 58 #[.val (.int (6 : Int32)), .val (.int (0 : Int32)), .val (.int (0 : Int32)), .val (.int (1 : Int32)), .unset] [(.int (11 : Int32)), (.int (6 : Int32))]))
  refine OGets.step (fun _ => XS.icmpYes X0.here hx rfl (pc0 := 58) (pc' := 65) rfl (hb hby dm3_58) rfl (feq (by decide : ¬ ((6 : Int32) = (11 : Int32)))).2 (by decide) (by decide)) ?_
  show OGets p e below _ (s₁.setTop (mkF m 65 #[.val (.int (6 : Int32)), .val (.int (0 : Int32)), .val (.int (0 : Int32)), .val (.int (1 : Int32)), .unset] []))
  refine OGets.step (fun _ => XS.iconst X0.here hx rfl (hb hby dm3_65)) ?_
  show OGets p e below _ (s₁.setTop (mkF m 66 #[.val (.int (6 : Int32)), .val (.int (0 : Int32)), .val (.int (0 : Int32)), .val (.int (1 : Int32)), .unset] [(.int (0 : Int32))]))
  refine OGets.step (fun _ => XS.istore X0.here hx rfl (hb hby dm3_66) rfl (l' := #[.val (.int (6 : Int32)), .val (.int (0 : Int32)), .val (.int (0 : Int32)), .val (.int (1 : Int32)), .val (.int (0 : Int32))]) rfl) ?_
  show OGets p e below _ (s₁.setTop (mkF m 68 #[.val (.int (6 : Int32)), .val (.int (0 : Int32)), .val (.int (0 : Int32)), .val (.int (1 : Int32)), .val (.int (0 : Int32))] []))
  refine OGets.step (fun _ => XS.iloadN X0.here hx rfl (hb hby dm3_68) rfl) ?_
  show OGets p e below _ (s₁.setTop (mkF m 69 #[.val (.int (6 : Int32)), .val (.int (0 : Int32)), .val (.int (0 : Int32)), .val (.int (1 : Int32)), .val (.int (0 : Int32))] [(.int (0 : Int32))]))
  refine OGets.step (fun _ => XS.ifNo X0.here hx rfl (hb hby dm3_69) rfl ((if0 _ _).trans (teq (by decide : (0 : Int32) = (0 : Int32))).2)) ?_
  show OGets p e below _ (s₁.setTop (mkF m 72 #[.val (.int (6 : Int32)), .val (.int (0 : Int32)), .val (.int (0 : Int32)), .val (.int (1 : Int32)), .val (.int (0 : Int32))] []))
  refine OGets.step (fun _ => XS.iloadN X0.here hx rfl (hb hby dm3_72) rfl) ?_
  show OGets p e below _ (s₁.setTop (mkF m 73 #[.val (.int (6 : Int32)), .val (.int (0 : Int32)), .val (.int (0 : Int32)), .val (.int (1 : Int32)), .val (.int (0 : Int32))] [(.int (0 : Int32))]))
  refine OGets.step (fun _ => XS.ifNo X0.here hx rfl (hb hby dm3_73) rfl ((if0 _ _).trans (teq (by decide : (0 : Int32) = (0 : Int32))).2)) ?_
  show OGets p e below _ (s₁.setTop (mkF m 76 #[.val (.int (6 : Int32)), .val (.int (0 : Int32)), .val (.int (0 : Int32)), .val (.int (1 : Int32)), .val (.int (0 : Int32))] []))
  refine OGets.step (fun _ => XS.iloadN X0.here hx rfl (hb hby dm3_76) rfl) ?_
  show OGets p e below _ (s₁.setTop (mkF m 77 #[.val (.int (6 : Int32)), .val (.int (0 : Int32)), .val (.int (0 : Int32)), .val (.int (1 : Int32)), .val (.int (0 : Int32))] [(.int (1 : Int32))]))
  refine OGets.step (fun _ => XS.ifYes X0.here hx rfl (pc0 := 77) (pc' := 85) rfl (hb hby dm3_77) rfl ((if0 _ _).trans (feq (by decide : ¬ ((1 : Int32) = (0 : Int32)))).2) (by decide) (by decide)) ?_
  show OGets p e below _ (s₁.setTop (mkF m 85 #[.val (.int (6 : Int32)), .val (.int (0 : Int32)), .val (.int (0 : Int32)), .val (.int (1 : Int32)), .val (.int (0 : Int32))] []))
  refine OGets.step (fun _ => XS.iconst X0.here hx rfl (hb hby dm3_85)) ?_
  show OGets p e below _ (s₁.setTop (mkF m 86 #[.val (.int (6 : Int32)), .val (.int (0 : Int32)), .val (.int (0 : Int32)), .val (.int (1 : Int32)), .val (.int (0 : Int32))] [(.int (1 : Int32))]))
  refine OGets.step (fun _ => XS.goto X0.here hx rfl (pc0 := 86) (pc' := 90) rfl (hb hby dm3_86) (by decide) (by decide)) ?_
  show OGets p e below _ (s₁.setTop (mkF m 90 #[.val (.int (6 : Int32)), .val (.int (0 : Int32)), .val (.int (0 : Int32)), .val (.int (1 : Int32)), .val (.int (0 : Int32))] [(.int (1 : Int32))]))
  refine OGets.retN X0 hx hlk (t := .boolean) Bd.returns (by simp) (hb hby dm3_90) (Nat.le_of_ble_eq_true rfl) (Nat.le_of_ble_eq_true rfl) ?_
  exact ⟨rfl, rfl, e0⟩
theorem dm2_63 : decode method_2_code 63 = .ok (.iload_n 0, 1) := by decide +kernel
theorem dm2_64 : decode method_2_code 64 = .ok (.bipush 7, 2) := by decide +kernel
theorem dm2_66 : decode method_2_code 66 = .ok (.if_icmp .ne 7, 3) := by decide +kernel
theorem dm2_69 : decode method_2_code 69 = .ok (.getstatic 31, 3) := by decide +kernel
theorem dm2_72 : decode method_2_code 72 = .ok (.areturn, 1) := by decide +kernel
theorem ef_pk7 (m : MethodId) (x0 : Int32) : entryFrame m #[(.int x0)] 1 = mkF m 0 #[.val (.int x0)] [] := by first | (simp [entryFrame, mkF, argsToLocals, Value.category]; done) | rfl
def Q_pk7 (Z : State) (A : Nat → Addr) (h0 : Heap) (n0 : Nat) (v : Option Value) (h : Heap) (L : List Loc) : Prop := v = some (.ref (A 7)) ∧ L = [] ∧ h = h0
set_option maxRecDepth 65536 in
set_option maxHeartbeats 40000000 in
theorem rm_pk7 (l : Launch) (Z : State) (a0 : Array Value) (hw : ∀ d ∈ tables_1, d.before a0 Z = true) (ws : List Jvm.Cond) (A : Nat → Addr) (h0 : Heap) (n0 : Nat) (Z0 : n0 ≤ h0.size) (hS : ∀ i, i < 13 → Sta Z h0 "com/example/pelt/pelt/Axis" (nmOf i) "Lcom/example/pelt/pelt/Axis;" (.ref (A i))) (hI : ∀ i j, i < 13 → j < 13 → A i = A j → i = j) :
    MetFree l (⟨"com/example/pelt/pelt/AxisListsOverlapPinLaw", "pick", "(I)Lcom/example/pelt/pelt/Axis;"⟩ : MethodName) (head1 (Jvm.Cond.code (⟨"com/example/pelt/pelt/AxisListsOverlapPinLaw", "pick", "(I)Lcom/example/pelt/pelt/Axis;"⟩ : MethodName) method_2_code 1 (some (.object "com/example/pelt/pelt/Axis")) :: ws) ({ frames := 0, cells := 0, slots := 0, locals := 0 } : Room)) (fun a_ U => a_ = #[(.int (7 : Int32))] ∧ Z.Warmed39 U.vm ∧ U.heap = h0) (fun _ _ _ _ _ => True) (fun _ U o U' => ∃ v L, o = .returned v ∧ Q_pk7 Z A h0 n0 v U'.heap L ∧ FrameEnd U o U' L ({ frames := 0, cells := 0, slots := 0, locals := 0 } : Room).cells ({ frames := 0, cells := 0, slots := 0, locals := 0 } : Room).slots) := by
  refine MetFree.of_bodySF (plainFor_of_name pn_0) hisR ?_
  intro p e s m args below meth c s₁ Bd hml0 hP hK
  obtain ⟨rfl, hZ, hh⟩ := hP
  have hx := Bd.exec
  have hby := Bd.bytes
  have hlk : meth.locks = false := Bd.notSynchronized
  have hml : c.maxLocals = 1 := hml0
  have hown : s.vm.findClass "com/example/pelt/pelt/AxisListsOverlapPinLaw" = some m.cls := findClass_of_methodNamed Bd.named
  have hnm := (name_of_methodNamed Bd.named Bd.method).1
  have X0 : Stand p l e ({ frames := 0, cells := 0, slots := 0, locals := 0 } : Room) s m #[(.int (7 : Int32))] below meth c s₁ [] 0 0 := Stand.of_body Bd
  have e0 : s₁.heap = h0 := by rw [← hh, Bd.state]; rfl
  have N0 := Fr.nil n0
  show OGets p e below (OLeaves s (Q_pk7 Z A h0 n0 ) ({ frames := 0, cells := 0, slots := 0, locals := 0 } : Room).cells ({ frames := 0, cells := 0, slots := 0, locals := 0 } : Room).slots) _
  refine OGets.enter (ef_pk7 m (7 : Int32)) ?_
  show OGets p e below _ (s₁.setTop (mkF m 0 #[.val (.int (7 : Int32))] []))
  refine OGets.step (fun _ => XS.iloadN X0.here hx rfl (hb hby dm2_0) rfl) ?_
  show OGets p e below _ (s₁.setTop (mkF m 1 #[.val (.int (7 : Int32))] [(.int (7 : Int32))]))
  refine OGets.step (fun _ => XS.ifYes X0.here hx rfl (pc0 := 1) (pc' := 8) rfl (hb hby dm2_1) rfl ((if0 _ _).trans (feq (by decide : ¬ ((7 : Int32) = (0 : Int32)))).2) (by decide) (by decide)) ?_
  show OGets p e below _ (s₁.setTop (mkF m 8 #[.val (.int (7 : Int32))] []))
  refine OGets.step (fun _ => XS.iloadN X0.here hx rfl (hb hby dm2_8) rfl) ?_
  show OGets p e below _ (s₁.setTop (mkF m 9 #[.val (.int (7 : Int32))] [(.int (7 : Int32))]))
  refine OGets.step (fun _ => XS.iconst X0.here hx rfl (hb hby dm2_9)) ?_
  show OGets p e below _ (s₁.setTop (mkF m 10 #[.val (.int (7 : Int32))] [(.int (1 : Int32)), (.int (7 : Int32))]))
  refine OGets.step (fun _ => XS.icmpYes X0.here hx rfl (pc0 := 10) (pc' := 17) rfl (hb hby dm2_10) rfl (feq (by decide : ¬ ((7 : Int32) = (1 : Int32)))).2 (by decide) (by decide)) ?_
  show OGets p e below _ (s₁.setTop (mkF m 17 #[.val (.int (7 : Int32))] []))
  refine OGets.step (fun _ => XS.iloadN X0.here hx rfl (hb hby dm2_17) rfl) ?_
  show OGets p e below _ (s₁.setTop (mkF m 18 #[.val (.int (7 : Int32))] [(.int (7 : Int32))]))
  refine OGets.step (fun _ => XS.iconst X0.here hx rfl (hb hby dm2_18)) ?_
  show OGets p e below _ (s₁.setTop (mkF m 19 #[.val (.int (7 : Int32))] [(.int (2 : Int32)), (.int (7 : Int32))]))
  refine OGets.step (fun _ => XS.icmpYes X0.here hx rfl (pc0 := 19) (pc' := 26) rfl (hb hby dm2_19) rfl (feq (by decide : ¬ ((7 : Int32) = (2 : Int32)))).2 (by decide) (by decide)) ?_
  show OGets p e below _ (s₁.setTop (mkF m 26 #[.val (.int (7 : Int32))] []))
  refine OGets.step (fun _ => XS.iloadN X0.here hx rfl (hb hby dm2_26) rfl) ?_
  show OGets p e below _ (s₁.setTop (mkF m 27 #[.val (.int (7 : Int32))] [(.int (7 : Int32))]))
  refine OGets.step (fun _ => XS.iconst X0.here hx rfl (hb hby dm2_27)) ?_
  show OGets p e below _ (s₁.setTop (mkF m 28 #[.val (.int (7 : Int32))] [(.int (3 : Int32)), (.int (7 : Int32))]))
  refine OGets.step (fun _ => XS.icmpYes X0.here hx rfl (pc0 := 28) (pc' := 35) rfl (hb hby dm2_28) rfl (feq (by decide : ¬ ((7 : Int32) = (3 : Int32)))).2 (by decide) (by decide)) ?_
  show OGets p e below _ (s₁.setTop (mkF m 35 #[.val (.int (7 : Int32))] []))
  refine OGets.step (fun _ => XS.iloadN X0.here hx rfl (hb hby dm2_35) rfl) ?_
  show OGets p e below _ (s₁.setTop (mkF m 36 #[.val (.int (7 : Int32))] [(.int (7 : Int32))]))
  refine OGets.step (fun _ => XS.iconst X0.here hx rfl (hb hby dm2_36)) ?_
  show OGets p e below _ (s₁.setTop (mkF m 37 #[.val (.int (7 : Int32))] [(.int (4 : Int32)), (.int (7 : Int32))]))
  refine OGets.step (fun _ => XS.icmpYes X0.here hx rfl (pc0 := 37) (pc' := 44) rfl (hb hby dm2_37) rfl (feq (by decide : ¬ ((7 : Int32) = (4 : Int32)))).2 (by decide) (by decide)) ?_
  show OGets p e below _ (s₁.setTop (mkF m 44 #[.val (.int (7 : Int32))] []))
  refine OGets.step (fun _ => XS.iloadN X0.here hx rfl (hb hby dm2_44) rfl) ?_
  show OGets p e below _ (s₁.setTop (mkF m 45 #[.val (.int (7 : Int32))] [(.int (7 : Int32))]))
  refine OGets.step (fun _ => XS.iconst X0.here hx rfl (hb hby dm2_45)) ?_
  show OGets p e below _ (s₁.setTop (mkF m 46 #[.val (.int (7 : Int32))] [(.int (5 : Int32)), (.int (7 : Int32))]))
  refine OGets.step (fun _ => XS.icmpYes X0.here hx rfl (pc0 := 46) (pc' := 53) rfl (hb hby dm2_46) rfl (feq (by decide : ¬ ((7 : Int32) = (5 : Int32)))).2 (by decide) (by decide)) ?_
  show OGets p e below _ (s₁.setTop (mkF m 53 #[.val (.int (7 : Int32))] []))
  refine OGets.step (fun _ => XS.iloadN X0.here hx rfl (hb hby dm2_53) rfl) ?_
  show OGets p e below _ (s₁.setTop (mkF m 54 #[.val (.int (7 : Int32))] [(.int (7 : Int32))]))
  refine OGets.step (fun _ => XS.bipush X0.here hx rfl (hb hby dm2_54)) ?_
  show OGets p e below _ (s₁.setTop (mkF m 56 #[.val (.int (7 : Int32))] [(.int (6 : Int32)), (.int (7 : Int32))]))
  refine OGets.step (fun _ => XS.icmpYes X0.here hx rfl (pc0 := 56) (pc' := 63) rfl (hb hby dm2_56) rfl (feq (by decide : ¬ ((7 : Int32) = (6 : Int32)))).2 (by decide) (by decide)) ?_
  show OGets p e below _ (s₁.setTop (mkF m 63 #[.val (.int (7 : Int32))] []))
  refine OGets.step (fun _ => XS.iloadN X0.here hx rfl (hb hby dm2_63) rfl) ?_
  show OGets p e below _ (s₁.setTop (mkF m 64 #[.val (.int (7 : Int32))] [(.int (7 : Int32))]))
  refine OGets.step (fun _ => XS.bipush X0.here hx rfl (hb hby dm2_64)) ?_
  show OGets p e below _ (s₁.setTop (mkF m 66 #[.val (.int (7 : Int32))] [(.int (7 : Int32)), (.int (7 : Int32))]))
  refine OGets.step (fun _ => XS.icmpNo X0.here hx rfl (hb hby dm2_66) rfl (teq (by decide : (7 : Int32) = (7 : Int32))).2) ?_
  show OGets p e below _ (s₁.setTop (mkF m 69 #[.val (.int (7 : Int32))] []))
  obtain ⟨T165, X165, e165, st165⟩ := getS2 X0 hx hZ hown (host := "") (Or.inl (hw _ (List.mem_of_getElem? (i := 49) rfl))) Via.refl e0 (show Sta Z h0 "com/example/pelt/pelt/Axis" "FOLLOWING_SIBLING" "Lcom/example/pelt/pelt/Axis;" (.ref (A 7)) from hS 7 (by decide)) (g := (mkF m 69 #[.val (.int (7 : Int32))] [])) rfl (hb hby dm2_69)
  refine OGets.step st165 ?_
  show OGets p e below _ (T165.setTop (mkF m 72 #[.val (.int (7 : Int32))] [(.ref (A 7))]))
  refine OGets.retA X165 hx hlk (t := (.object "com/example/pelt/pelt/Axis")) Bd.returns rfl rfl rfl (hb hby dm2_72) (Nat.le_of_ble_eq_true rfl) (Nat.le_of_ble_eq_true rfl) ?_
  exact ⟨rfl, rfl, e165⟩
theorem ef_lo7 (m : MethodId) (x0 : Addr) : entryFrame m #[(.ref x0)] 1 = mkF m 0 #[.val (.ref x0)] [] := by first | (simp [entryFrame, mkF, argsToLocals, Value.category]; done) | rfl
def Q_lo7 (Z : State) (A : Nat → Addr) (h0 : Heap) (n0 : Nat) (v : Option Value) (h : Heap) (L : List Loc) : Prop := v = some (.int (1 : Int32)) ∧ L = [] ∧ h = h0
set_option maxRecDepth 65536 in
set_option maxHeartbeats 40000000 in
theorem rm_lo7 (l : Launch) (Z : State) (a0 : Array Value) (hw : ∀ d ∈ tables_1, d.before a0 Z = true) (ws : List Jvm.Cond) (A : Nat → Addr) (h0 : Heap) (n0 : Nat) (Z0 : n0 ≤ h0.size) (hS : ∀ i, i < 13 → Sta Z h0 "com/example/pelt/pelt/Axis" (nmOf i) "Lcom/example/pelt/pelt/Axis;" (.ref (A i))) (hI : ∀ i j, i < 13 → j < 13 → A i = A j → i = j) :
    MetFree l (⟨"com/example/pelt/pelt/Axis", "listsOverlap", "()Z"⟩ : MethodName) (head1 (Jvm.Cond.code (⟨"com/example/pelt/pelt/Axis", "listsOverlap", "()Z"⟩ : MethodName) prog_3_method_15_code 1 (some .boolean) :: ws) ({ frames := 0, cells := 0, slots := 0, locals := 0 } : Room)) (fun a_ U => a_ = #[(.ref (A 7))] ∧ Z.Warmed39 U.vm ∧ U.heap = h0) (fun _ _ _ _ _ => True) (fun _ U o U' => ∃ v L, o = .returned v ∧ Q_lo7 Z A h0 n0 v U'.heap L ∧ FrameEnd U o U' L ({ frames := 0, cells := 0, slots := 0, locals := 0 } : Room).cells ({ frames := 0, cells := 0, slots := 0, locals := 0 } : Room).slots) := by
  refine MetFree.of_bodySF (plainFor_of_name pn_1) hisR ?_
  intro p e s m args below meth c s₁ Bd hml0 hP hK
  obtain ⟨rfl, hZ, hh⟩ := hP
  have hx := Bd.exec
  have hby := Bd.bytes
  have hlk : meth.locks = false := Bd.notSynchronized
  have hml : c.maxLocals = 1 := hml0
  have hown : s.vm.findClass "com/example/pelt/pelt/Axis" = some m.cls := findClass_of_methodNamed Bd.named
  have hnm := (name_of_methodNamed Bd.named Bd.method).1
  have X0 : Stand p l e ({ frames := 0, cells := 0, slots := 0, locals := 0 } : Room) s m #[(.ref (A 7))] below meth c s₁ [] 0 0 := Stand.of_body Bd
  have e0 : s₁.heap = h0 := by rw [← hh, Bd.state]; rfl
  have N0 := Fr.nil n0
  show OGets p e below (OLeaves s (Q_lo7 Z A h0 n0 ) ({ frames := 0, cells := 0, slots := 0, locals := 0 } : Room).cells ({ frames := 0, cells := 0, slots := 0, locals := 0 } : Room).slots) _
  refine OGets.enter (ef_lo7 m (A 7)) ?_
  show OGets p e below _ (s₁.setTop (mkF m 0 #[.val (.ref (A 7))] []))
  refine OGets.step (fun _ => XS.aloadN X0.here hx rfl (hb hby d3m15_0) rfl rfl) ?_
  show OGets p e below _ (s₁.setTop (mkF m 1 #[.val (.ref (A 7))] [(.ref (A 7))]))
  obtain ⟨T166, X166, e166, st166⟩ := getS2 X0 hx hZ hown (host := "") (Or.inl (hw _ (List.mem_of_getElem? (i := 13) rfl))) Via.refl e0 (show Sta Z h0 "com/example/pelt/pelt/Axis" "CHILD" "Lcom/example/pelt/pelt/Axis;" (.ref (A 3)) from hS 3 (by decide)) (g := (mkF m 1 #[.val (.ref (A 7))] [(.ref (A 7))])) rfl (hb hby d3m15_1)
  refine OGets.step st166 ?_
  show OGets p e below _ (T166.setTop (mkF m 4 #[.val (.ref (A 7))] [(.ref (A 3)), (.ref (A 7))]))
  refine OGets.step (fun _ => Jvm.RoadKit.acmp (g := (mkF m 4 #[.val (.ref (A 7))] [(.ref (A 3)), (.ref (A 7))])) X166 hx rfl rfl rfl (pc0 := 4) (pc' := 7) (same := false) rfl (hb hby d3m15_4) rfl (decide_eq_false fun q => absurd (hI 7 3 (by decide) (by decide) (Value.ref.inj q)) (by decide)) (by decide) (by decide)) ?_
  show OGets p e below _ (T166.setTop (mkF m 7 #[.val (.ref (A 7))] []))
  refine OGets.step (fun _ => XS.aloadN X166.here hx rfl (hb hby d3m15_7) rfl rfl) ?_
  show OGets p e below _ (T166.setTop (mkF m 8 #[.val (.ref (A 7))] [(.ref (A 7))]))
  obtain ⟨T167, X167, e167, st167⟩ := getS2 X166 hx hZ hown (host := "") (Or.inl (hw _ (List.mem_of_getElem? (i := 15) rfl))) Via.refl e166 (show Sta Z h0 "com/example/pelt/pelt/Axis" "ATTRIBUTE" "Lcom/example/pelt/pelt/Axis;" (.ref (A 2)) from hS 2 (by decide)) (g := (mkF m 8 #[.val (.ref (A 7))] [(.ref (A 7))])) rfl (hb hby d3m15_8)
  refine OGets.step st167 ?_
  show OGets p e below _ (T167.setTop (mkF m 11 #[.val (.ref (A 7))] [(.ref (A 2)), (.ref (A 7))]))
  refine OGets.step (fun _ => Jvm.RoadKit.acmp (g := (mkF m 11 #[.val (.ref (A 7))] [(.ref (A 2)), (.ref (A 7))])) X167 hx rfl rfl rfl (pc0 := 11) (pc' := 14) (same := false) rfl (hb hby d3m15_11) rfl (decide_eq_false fun q => absurd (hI 7 2 (by decide) (by decide) (Value.ref.inj q)) (by decide)) (by decide) (by decide)) ?_
  show OGets p e below _ (T167.setTop (mkF m 14 #[.val (.ref (A 7))] []))
  refine OGets.step (fun _ => XS.aloadN X167.here hx rfl (hb hby d3m15_14) rfl rfl) ?_
  show OGets p e below _ (T167.setTop (mkF m 15 #[.val (.ref (A 7))] [(.ref (A 7))]))
  obtain ⟨T168, X168, e168, st168⟩ := getS2 X167 hx hZ hown (host := "") (Or.inl (hw _ (List.mem_of_getElem? (i := 17) rfl))) Via.refl e167 (show Sta Z h0 "com/example/pelt/pelt/Axis" "NAMESPACE" "Lcom/example/pelt/pelt/Axis;" (.ref (A 8)) from hS 8 (by decide)) (g := (mkF m 15 #[.val (.ref (A 7))] [(.ref (A 7))])) rfl (hb hby d3m15_15)
  refine OGets.step st168 ?_
  show OGets p e below _ (T168.setTop (mkF m 18 #[.val (.ref (A 7))] [(.ref (A 8)), (.ref (A 7))]))
  refine OGets.step (fun _ => Jvm.RoadKit.acmp (g := (mkF m 18 #[.val (.ref (A 7))] [(.ref (A 8)), (.ref (A 7))])) X168 hx rfl rfl rfl (pc0 := 18) (pc' := 21) (same := false) rfl (hb hby d3m15_18) rfl (decide_eq_false fun q => absurd (hI 7 8 (by decide) (by decide) (Value.ref.inj q)) (by decide)) (by decide) (by decide)) ?_
  show OGets p e below _ (T168.setTop (mkF m 21 #[.val (.ref (A 7))] []))
  refine OGets.step (fun _ => XS.aloadN X168.here hx rfl (hb hby d3m15_21) rfl rfl) ?_
  show OGets p e below _ (T168.setTop (mkF m 22 #[.val (.ref (A 7))] [(.ref (A 7))]))
  obtain ⟨T169, X169, e169, st169⟩ := getS2 X168 hx hZ hown (host := "") (Or.inl (hw _ (List.mem_of_getElem? (i := 19) rfl))) Via.refl e168 (show Sta Z h0 "com/example/pelt/pelt/Axis" "PARENT" "Lcom/example/pelt/pelt/Axis;" (.ref (A 9)) from hS 9 (by decide)) (g := (mkF m 22 #[.val (.ref (A 7))] [(.ref (A 7))])) rfl (hb hby d3m15_22)
  refine OGets.step st169 ?_
  show OGets p e below _ (T169.setTop (mkF m 25 #[.val (.ref (A 7))] [(.ref (A 9)), (.ref (A 7))]))
  refine OGets.step (fun _ => Jvm.RoadKit.acmp (g := (mkF m 25 #[.val (.ref (A 7))] [(.ref (A 9)), (.ref (A 7))])) X169 hx rfl rfl rfl (pc0 := 25) (pc' := 28) (same := false) rfl (hb hby d3m15_25) rfl (decide_eq_false fun q => absurd (hI 7 9 (by decide) (by decide) (Value.ref.inj q)) (by decide)) (by decide) (by decide)) ?_
  show OGets p e below _ (T169.setTop (mkF m 28 #[.val (.ref (A 7))] []))
  refine OGets.step (fun _ => XS.aloadN X169.here hx rfl (hb hby d3m15_28) rfl rfl) ?_
  show OGets p e below _ (T169.setTop (mkF m 29 #[.val (.ref (A 7))] [(.ref (A 7))]))
  obtain ⟨T170, X170, e170, st170⟩ := getS2 X169 hx hZ hown (host := "") (Or.inl (hw _ (List.mem_of_getElem? (i := 21) rfl))) Via.refl e169 (show Sta Z h0 "com/example/pelt/pelt/Axis" "SELF" "Lcom/example/pelt/pelt/Axis;" (.ref (A 12)) from hS 12 (by decide)) (g := (mkF m 29 #[.val (.ref (A 7))] [(.ref (A 7))])) rfl (hb hby d3m15_29)
  refine OGets.step st170 ?_
  show OGets p e below _ (T170.setTop (mkF m 32 #[.val (.ref (A 7))] [(.ref (A 12)), (.ref (A 7))]))
  refine OGets.step (fun _ => Jvm.RoadKit.acmp (g := (mkF m 32 #[.val (.ref (A 7))] [(.ref (A 12)), (.ref (A 7))])) X170 hx rfl rfl rfl (pc0 := 32) (pc' := 35) (same := false) rfl (hb hby d3m15_32) rfl (decide_eq_false fun q => absurd (hI 7 12 (by decide) (by decide) (Value.ref.inj q)) (by decide)) (by decide) (by decide)) ?_
  show OGets p e below _ (T170.setTop (mkF m 35 #[.val (.ref (A 7))] []))
  refine OGets.step (fun _ => XS.iconst X170.here hx rfl (hb hby d3m15_35)) ?_
  show OGets p e below _ (T170.setTop (mkF m 36 #[.val (.ref (A 7))] [(.int (1 : Int32))]))
  refine OGets.step (fun _ => XS.goto X170.here hx rfl (pc0 := 36) (pc' := 40) rfl (hb hby d3m15_36) (by decide) (by decide)) ?_
  show OGets p e below _ (T170.setTop (mkF m 40 #[.val (.ref (A 7))] [(.int (1 : Int32))]))
  refine OGets.retN X170 hx hlk (t := .boolean) Bd.returns (by simp) (hb hby d3m15_40) (Nat.le_of_ble_eq_true rfl) (Nat.le_of_ble_eq_true rfl) ?_
  exact ⟨rfl, rfl, e170⟩
theorem ef_rv7 (m : MethodId) (x0 : Addr) : entryFrame m #[(.ref x0)] 1 = mkF m 0 #[.val (.ref x0)] [] := by first | (simp [entryFrame, mkF, argsToLocals, Value.category]; done) | rfl
def Q_rv7 (Z : State) (A : Nat → Addr) (h0 : Heap) (n0 : Nat) (v : Option Value) (h : Heap) (L : List Loc) : Prop := v = some (.int (0 : Int32)) ∧ L = [] ∧ h = h0
set_option maxRecDepth 65536 in
set_option maxHeartbeats 40000000 in
theorem rm_rv7 (l : Launch) (Z : State) (a0 : Array Value) (hw : ∀ d ∈ tables_1, d.before a0 Z = true) (ws : List Jvm.Cond) (A : Nat → Addr) (h0 : Heap) (n0 : Nat) (Z0 : n0 ≤ h0.size) (hS : ∀ i, i < 13 → Sta Z h0 "com/example/pelt/pelt/Axis" (nmOf i) "Lcom/example/pelt/pelt/Axis;" (.ref (A i))) (hI : ∀ i j, i < 13 → j < 13 → A i = A j → i = j) :
    MetFree l (⟨"com/example/pelt/pelt/Axis", "isReverse", "()Z"⟩ : MethodName) (head1 (Jvm.Cond.code (⟨"com/example/pelt/pelt/Axis", "isReverse", "()Z"⟩ : MethodName) prog_3_method_6_code 1 (some .boolean) :: ws) ({ frames := 0, cells := 0, slots := 0, locals := 0 } : Room)) (fun a_ U => a_ = #[(.ref (A 7))] ∧ Z.Warmed39 U.vm ∧ U.heap = h0) (fun _ _ _ _ _ => True) (fun _ U o U' => ∃ v L, o = .returned v ∧ Q_rv7 Z A h0 n0 v U'.heap L ∧ FrameEnd U o U' L ({ frames := 0, cells := 0, slots := 0, locals := 0 } : Room).cells ({ frames := 0, cells := 0, slots := 0, locals := 0 } : Room).slots) := by
  refine MetFree.of_bodySF (plainFor_of_name pn_1) hisR ?_
  intro p e s m args below meth c s₁ Bd hml0 hP hK
  obtain ⟨rfl, hZ, hh⟩ := hP
  have hx := Bd.exec
  have hby := Bd.bytes
  have hlk : meth.locks = false := Bd.notSynchronized
  have hml : c.maxLocals = 1 := hml0
  have hown : s.vm.findClass "com/example/pelt/pelt/Axis" = some m.cls := findClass_of_methodNamed Bd.named
  have hnm := (name_of_methodNamed Bd.named Bd.method).1
  have X0 : Stand p l e ({ frames := 0, cells := 0, slots := 0, locals := 0 } : Room) s m #[(.ref (A 7))] below meth c s₁ [] 0 0 := Stand.of_body Bd
  have e0 : s₁.heap = h0 := by rw [← hh, Bd.state]; rfl
  have N0 := Fr.nil n0
  show OGets p e below (OLeaves s (Q_rv7 Z A h0 n0 ) ({ frames := 0, cells := 0, slots := 0, locals := 0 } : Room).cells ({ frames := 0, cells := 0, slots := 0, locals := 0 } : Room).slots) _
  refine OGets.enter (ef_rv7 m (A 7)) ?_
  show OGets p e below _ (s₁.setTop (mkF m 0 #[.val (.ref (A 7))] []))
  refine OGets.step (fun _ => XS.aloadN X0.here hx rfl (hb hby d3m6_0) rfl rfl) ?_
  show OGets p e below _ (s₁.setTop (mkF m 1 #[.val (.ref (A 7))] [(.ref (A 7))]))
  obtain ⟨T171, X171, e171, st171⟩ := getS2 X0 hx hZ hown (host := "") (Or.inl (hw _ (List.mem_of_getElem? (i := 28) rfl))) Via.refl e0 (show Sta Z h0 "com/example/pelt/pelt/Axis" "ANCESTOR" "Lcom/example/pelt/pelt/Axis;" (.ref (A 0)) from hS 0 (by decide)) (g := (mkF m 1 #[.val (.ref (A 7))] [(.ref (A 7))])) rfl (hb hby d3m6_1)
  refine OGets.step st171 ?_
  show OGets p e below _ (T171.setTop (mkF m 4 #[.val (.ref (A 7))] [(.ref (A 0)), (.ref (A 7))]))
  refine OGets.step (fun _ => Jvm.RoadKit.acmp (g := (mkF m 4 #[.val (.ref (A 7))] [(.ref (A 0)), (.ref (A 7))])) X171 hx rfl rfl rfl (pc0 := 4) (pc' := 7) (same := false) rfl (hb hby d3m6_4) rfl (decide_eq_false fun q => absurd (hI 7 0 (by decide) (by decide) (Value.ref.inj q)) (by decide)) (by decide) (by decide)) ?_
  show OGets p e below _ (T171.setTop (mkF m 7 #[.val (.ref (A 7))] []))
  refine OGets.step (fun _ => XS.aloadN X171.here hx rfl (hb hby d3m6_7) rfl rfl) ?_
  show OGets p e below _ (T171.setTop (mkF m 8 #[.val (.ref (A 7))] [(.ref (A 7))]))
  obtain ⟨T172, X172, e172, st172⟩ := getS2 X171 hx hZ hown (host := "") (Or.inl (hw _ (List.mem_of_getElem? (i := 35) rfl))) Via.refl e171 (show Sta Z h0 "com/example/pelt/pelt/Axis" "ANCESTOR_OR_SELF" "Lcom/example/pelt/pelt/Axis;" (.ref (A 1)) from hS 1 (by decide)) (g := (mkF m 8 #[.val (.ref (A 7))] [(.ref (A 7))])) rfl (hb hby d3m6_8)
  refine OGets.step st172 ?_
  show OGets p e below _ (T172.setTop (mkF m 11 #[.val (.ref (A 7))] [(.ref (A 1)), (.ref (A 7))]))
  refine OGets.step (fun _ => Jvm.RoadKit.acmp (g := (mkF m 11 #[.val (.ref (A 7))] [(.ref (A 1)), (.ref (A 7))])) X172 hx rfl rfl rfl (pc0 := 11) (pc' := 14) (same := false) rfl (hb hby d3m6_11) rfl (decide_eq_false fun q => absurd (hI 7 1 (by decide) (by decide) (Value.ref.inj q)) (by decide)) (by decide) (by decide)) ?_
  show OGets p e below _ (T172.setTop (mkF m 14 #[.val (.ref (A 7))] []))
  refine OGets.step (fun _ => XS.aloadN X172.here hx rfl (hb hby d3m6_14) rfl rfl) ?_
  show OGets p e below _ (T172.setTop (mkF m 15 #[.val (.ref (A 7))] [(.ref (A 7))]))
  obtain ⟨T173, X173, e173, st173⟩ := getS2 X172 hx hZ hown (host := "") (Or.inl (hw _ (List.mem_of_getElem? (i := 37) rfl))) Via.refl e172 (show Sta Z h0 "com/example/pelt/pelt/Axis" "PRECEDING" "Lcom/example/pelt/pelt/Axis;" (.ref (A 10)) from hS 10 (by decide)) (g := (mkF m 15 #[.val (.ref (A 7))] [(.ref (A 7))])) rfl (hb hby d3m6_15)
  refine OGets.step st173 ?_
  show OGets p e below _ (T173.setTop (mkF m 18 #[.val (.ref (A 7))] [(.ref (A 10)), (.ref (A 7))]))
  refine OGets.step (fun _ => Jvm.RoadKit.acmp (g := (mkF m 18 #[.val (.ref (A 7))] [(.ref (A 10)), (.ref (A 7))])) X173 hx rfl rfl rfl (pc0 := 18) (pc' := 21) (same := false) rfl (hb hby d3m6_18) rfl (decide_eq_false fun q => absurd (hI 7 10 (by decide) (by decide) (Value.ref.inj q)) (by decide)) (by decide) (by decide)) ?_
  show OGets p e below _ (T173.setTop (mkF m 21 #[.val (.ref (A 7))] []))
  refine OGets.step (fun _ => XS.aloadN X173.here hx rfl (hb hby d3m6_21) rfl rfl) ?_
  show OGets p e below _ (T173.setTop (mkF m 22 #[.val (.ref (A 7))] [(.ref (A 7))]))
  obtain ⟨T174, X174, e174, st174⟩ := getS2 X173 hx hZ hown (host := "") (Or.inl (hw _ (List.mem_of_getElem? (i := 39) rfl))) Via.refl e173 (show Sta Z h0 "com/example/pelt/pelt/Axis" "PRECEDING_SIBLING" "Lcom/example/pelt/pelt/Axis;" (.ref (A 11)) from hS 11 (by decide)) (g := (mkF m 22 #[.val (.ref (A 7))] [(.ref (A 7))])) rfl (hb hby d3m6_22)
  refine OGets.step st174 ?_
  show OGets p e below _ (T174.setTop (mkF m 25 #[.val (.ref (A 7))] [(.ref (A 11)), (.ref (A 7))]))
  refine OGets.step (fun _ => Jvm.RoadKit.acmp (g := (mkF m 25 #[.val (.ref (A 7))] [(.ref (A 11)), (.ref (A 7))])) X174 hx rfl rfl rfl (pc0 := 25) (pc' := 32) (same := false) rfl (hb hby d3m6_25) rfl (decide_eq_false fun q => absurd (hI 7 11 (by decide) (by decide) (Value.ref.inj q)) (by decide)) (by decide) (by decide)) ?_
  show OGets p e below _ (T174.setTop (mkF m 32 #[.val (.ref (A 7))] []))
  refine OGets.step (fun _ => XS.iconst X174.here hx rfl (hb hby d3m6_32)) ?_
  show OGets p e below _ (T174.setTop (mkF m 33 #[.val (.ref (A 7))] [(.int (0 : Int32))]))
  refine OGets.retN X174 hx hlk (t := .boolean) Bd.returns (by simp) (hb hby d3m6_33) (Nat.le_of_ble_eq_true rfl) (Nat.le_of_ble_eq_true rfl) ?_
  exact ⟨rfl, rfl, e174⟩
theorem ef_ex7 (m : MethodId) (x0 : Int32) : entryFrame m #[(.int x0)] 5 = mkF m 0 #[.val (.int x0), .unset, .unset, .unset, .unset] [] := by first | (simp [entryFrame, mkF, argsToLocals, Value.category]; done) | rfl
def Q_ex7 (Z : State)  (h0 : Heap) (n0 : Nat) (v : Option Value) (h : Heap) (L : List Loc) : Prop := v = some (.int (1 : Int32)) ∧ L = [] ∧ h = h0
set_option maxRecDepth 65536 in
set_option maxHeartbeats 40000000 in
theorem rm_ex7 (l : Launch) (Z : State) (a0 : Array Value) (hw : ∀ d ∈ tables_1, d.before a0 Z = true) (ws : List Jvm.Cond)  (h0 : Heap) (n0 : Nat) (Z0 : n0 ≤ h0.size) :
    MetFree l (⟨"com/example/pelt/pelt/AxisListsOverlapPinLaw", "expected", "(I)Z"⟩ : MethodName) (head1 (Jvm.Cond.code (⟨"com/example/pelt/pelt/AxisListsOverlapPinLaw", "expected", "(I)Z"⟩ : MethodName) method_3_code 5 (some .boolean) :: ws) ({ frames := 0, cells := 0, slots := 0, locals := 0 } : Room)) (fun a_ U => a_ = #[(.int (7 : Int32))] ∧ Z.Warmed39 U.vm ∧ U.heap = h0) (fun _ _ _ _ _ => True) (fun _ U o U' => ∃ v L, o = .returned v ∧ Q_ex7 Z  h0 n0 v U'.heap L ∧ FrameEnd U o U' L ({ frames := 0, cells := 0, slots := 0, locals := 0 } : Room).cells ({ frames := 0, cells := 0, slots := 0, locals := 0 } : Room).slots) := by
  refine MetFree.of_bodySF (plainFor_of_name pn_0) hisR ?_
  intro p e s m args below meth c s₁ Bd hml0 hP hK
  obtain ⟨rfl, hZ, hh⟩ := hP
  have hx := Bd.exec
  have hby := Bd.bytes
  have hlk : meth.locks = false := Bd.notSynchronized
  have hml : c.maxLocals = 5 := hml0
  have hown : s.vm.findClass "com/example/pelt/pelt/AxisListsOverlapPinLaw" = some m.cls := findClass_of_methodNamed Bd.named
  have hnm := (name_of_methodNamed Bd.named Bd.method).1
  have X0 : Stand p l e ({ frames := 0, cells := 0, slots := 0, locals := 0 } : Room) s m #[(.int (7 : Int32))] below meth c s₁ [] 0 0 := Stand.of_body Bd
  have e0 : s₁.heap = h0 := by rw [← hh, Bd.state]; rfl
  have N0 := Fr.nil n0
  show OGets p e below (OLeaves s (Q_ex7 Z  h0 n0 ) ({ frames := 0, cells := 0, slots := 0, locals := 0 } : Room).cells ({ frames := 0, cells := 0, slots := 0, locals := 0 } : Room).slots) _
  refine OGets.enter (ef_ex7 m (7 : Int32)) ?_
  show OGets p e below _ (s₁.setTop (mkF m 0 #[.val (.int (7 : Int32)), .unset, .unset, .unset, .unset] []))
  refine OGets.step (fun _ => XS.iloadN X0.here hx rfl (hb hby dm3_0) rfl) ?_
  show OGets p e below _ (s₁.setTop (mkF m 1 #[.val (.int (7 : Int32)), .unset, .unset, .unset, .unset] [(.int (7 : Int32))]))
  refine OGets.step (fun _ => XS.ifNo X0.here hx rfl (hb hby dm3_1) rfl ((if0 _ _).trans (feq (by decide : ¬ ((7 : Int32) = (0 : Int32)))).1)) ?_
  show OGets p e below _ (s₁.setTop (mkF m 4 #[.val (.int (7 : Int32)), .unset, .unset, .unset, .unset] []))
  refine OGets.step (fun _ => XS.iloadN X0.here hx rfl (hb hby dm3_4) rfl) ?_
  show OGets p e below _ (s₁.setTop (mkF m 5 #[.val (.int (7 : Int32)), .unset, .unset, .unset, .unset] [(.int (7 : Int32))]))
  refine OGets.step (fun _ => XS.iconst X0.here hx rfl (hb hby dm3_5)) ?_
  show OGets p e below _ (s₁.setTop (mkF m 6 #[.val (.int (7 : Int32)), .unset, .unset, .unset, .unset] [(.int (1 : Int32)), (.int (7 : Int32))]))
  refine OGets.step (fun _ => XS.icmpYes X0.here hx rfl (pc0 := 6) (pc' := 13) rfl (hb hby dm3_6) rfl (feq (by decide : ¬ ((7 : Int32) = (1 : Int32)))).2 (by decide) (by decide)) ?_
  show OGets p e below _ (s₁.setTop (mkF m 13 #[.val (.int (7 : Int32)), .unset, .unset, .unset, .unset] []))
  refine OGets.step (fun _ => XS.iconst X0.here hx rfl (hb hby dm3_13)) ?_
  show OGets p e below _ (s₁.setTop (mkF m 14 #[.val (.int (7 : Int32)), .unset, .unset, .unset, .unset] [(.int (0 : Int32))]))
  refine OGets.step (fun _ => XS.istoreN X0.here hx rfl (hb hby dm3_14) rfl (l' := #[.val (.int (7 : Int32)), .val (.int (0 : Int32)), .unset, .unset, .unset]) rfl) ?_
  show OGets p e below _ (s₁.setTop (mkF m 15 #[.val (.int (7 : Int32)), .val (.int (0 : Int32)), .unset, .unset, .unset] []))
  refine OGets.step (fun _ => XS.iloadN X0.here hx rfl (hb hby dm3_15) rfl) ?_
  show OGets p e below _ (s₁.setTop (mkF m 16 #[.val (.int (7 : Int32)), .val (.int (0 : Int32)), .unset, .unset, .unset] [(.int (7 : Int32))]))
  refine OGets.step (fun _ => XS.iconst X0.here hx rfl (hb hby dm3_16)) ?_
  show OGets p e below _ (s₁.setTop (mkF m 17 #[.val (.int (7 : Int32)), .val (.int (0 : Int32)), .unset, .unset, .unset] [(.int (4 : Int32)), (.int (7 : Int32))]))
  refine OGets.step (fun _ => XS.icmpNo X0.here hx rfl (hb hby dm3_17) rfl (feq (by decide : ¬ ((7 : Int32) = (4 : Int32)))).1) ?_
  show OGets p e below _ (s₁.setTop (mkF m 20 #[.val (.int (7 : Int32)), .val (.int (0 : Int32)), .unset, .unset, .unset] []))
  refine OGets.step (fun _ => XS.iloadN X0.here hx rfl (hb hby dm3_20) rfl) ?_
  show OGets p e below _ (s₁.setTop (mkF m 21 #[.val (.int (7 : Int32)), .val (.int (0 : Int32)), .unset, .unset, .unset] [(.int (7 : Int32))]))
  refine OGets.step (fun _ => XS.iconst X0.here hx rfl (hb hby dm3_21)) ?_
  show OGets p e below _ (s₁.setTop (mkF m 22 #[.val (.int (7 : Int32)), .val (.int (0 : Int32)), .unset, .unset, .unset] [(.int (5 : Int32)), (.int (7 : Int32))]))
  refine OGets.step (fun _ => XS.icmpYes X0.here hx rfl (pc0 := 22) (pc' := 29) rfl (hb hby dm3_22) rfl (feq (by decide : ¬ ((7 : Int32) = (5 : Int32)))).2 (by decide) (by decide)) ?_
  show OGets p e below _ (s₁.setTop (mkF m 29 #[.val (.int (7 : Int32)), .val (.int (0 : Int32)), .unset, .unset, .unset] []))
  refine OGets.step (fun _ => XS.iconst X0.here hx rfl (hb hby dm3_29)) ?_
  show OGets p e below _ (s₁.setTop (mkF m 30 #[.val (.int (7 : Int32)), .val (.int (0 : Int32)), .unset, .unset, .unset] [(.int (0 : Int32))]))
  refine OGets.step (fun _ => XS.istoreN X0.here hx rfl (hb hby dm3_30) rfl (l' := #[.val (.int (7 : Int32)), .val (.int (0 : Int32)), .val (.int (0 : Int32)), .unset, .unset]) rfl) ?_
  show OGets p e below _ (s₁.setTop (mkF m 31 #[.val (.int (7 : Int32)), .val (.int (0 : Int32)), .val (.int (0 : Int32)), .unset, .unset] []))
  refine OGets.step (fun _ => XS.iloadN X0.here hx rfl (hb hby dm3_31) rfl) ?_
  show OGets p e below _ (s₁.setTop (mkF m 32 #[.val (.int (7 : Int32)), .val (.int (0 : Int32)), .val (.int (0 : Int32)), .unset, .unset] [(.int (7 : Int32))]))
  refine OGets.step (fun _ => XS.bipush X0.here hx rfl (hb hby dm3_32)) ?_
  show OGets p e below _ (s₁.setTop (mkF m 34 #[.val (.int (7 : Int32)), .val (.int (0 : Int32)), .val (.int (0 : Int32)), .unset, .unset] [(.int (6 : Int32)), (.int (7 : Int32))]))
  refine OGets.step (fun _ => XS.icmpNo X0.here hx rfl (hb hby dm3_34) rfl (feq (by decide : ¬ ((7 : Int32) = (6 : Int32)))).1) ?_
  show OGets p e below _ (s₁.setTop (mkF m 37 #[.val (.int (7 : Int32)), .val (.int (0 : Int32)), .val (.int (0 : Int32)), .unset, .unset] []))
  refine OGets.step (fun _ => XS.iloadN X0.here hx rfl (hb hby dm3_37) rfl) ?_
  show OGets p e below _ (s₁.setTop (mkF m 38 #[.val (.int (7 : Int32)), .val (.int (0 : Int32)), .val (.int (0 : Int32)), .unset, .unset] [(.int (7 : Int32))]))
  refine OGets.step (fun _ => XS.bipush X0.here hx rfl (hb hby dm3_38)) ?_
  show OGets p e below _ (s₁.setTop (mkF m 40 #[.val (.int (7 : Int32)), .val (.int (0 : Int32)), .val (.int (0 : Int32)), .unset, .unset] [(.int (7 : Int32)), (.int (7 : Int32))]))
  refine OGets.step (fun _ => XS.icmpNo X0.here hx rfl (hb hby dm3_40) rfl (teq (by decide : (7 : Int32) = (7 : Int32))).2) ?_
  show OGets p e below _ (s₁.setTop (mkF m 43 #[.val (.int (7 : Int32)), .val (.int (0 : Int32)), .val (.int (0 : Int32)), .unset, .unset] []))
  refine OGets.step (fun _ => XS.iconst X0.here hx rfl (hb hby dm3_43)) ?_
  show OGets p e below _ (s₁.setTop (mkF m 44 #[.val (.int (7 : Int32)), .val (.int (0 : Int32)), .val (.int (0 : Int32)), .unset, .unset] [(.int (1 : Int32))]))
  refine OGets.step (fun _ => XS.goto X0.here hx rfl (pc0 := 44) (pc' := 48) rfl (hb hby dm3_44) (by decide) (by decide)) ?_
  show OGets p e below _ (s₁.setTop (mkF m 48 #[.val (.int (7 : Int32)), .val (.int (0 : Int32)), .val (.int (0 : Int32)), .unset, .unset] [(.int (1 : Int32))]))
  refine OGets.step (fun _ => XS.istoreN X0.here hx rfl (hb hby dm3_48) rfl (l' := #[.val (.int (7 : Int32)), .val (.int (0 : Int32)), .val (.int (0 : Int32)), .val (.int (1 : Int32)), .unset]) rfl) ?_
  show OGets p e below _ (s₁.setTop (mkF m 49 #[.val (.int (7 : Int32)), .val (.int (0 : Int32)), .val (.int (0 : Int32)), .val (.int (1 : Int32)), .unset] []))
  refine OGets.step (fun _ => XS.iloadN X0.here hx rfl (hb hby dm3_49) rfl) ?_
  show OGets p e below _ (s₁.setTop (mkF m 50 #[.val (.int (7 : Int32)), .val (.int (0 : Int32)), .val (.int (0 : Int32)), .val (.int (1 : Int32)), .unset] [(.int (7 : Int32))]))
  refine OGets.step (fun _ => XS.bipush X0.here hx rfl (hb hby dm3_50)) ?_
  show OGets p e below _ (s₁.setTop (mkF m 52 #[.val (.int (7 : Int32)), .val (.int (0 : Int32)), .val (.int (0 : Int32)), .val (.int (1 : Int32)), .unset] [(.int (10 : Int32)), (.int (7 : Int32))]))
  refine OGets.step (fun _ => XS.icmpNo X0.here hx rfl (hb hby dm3_52) rfl (feq (by decide : ¬ ((7 : Int32) = (10 : Int32)))).1) ?_
  show OGets p e below _ (s₁.setTop (mkF m 55 #[.val (.int (7 : Int32)), .val (.int (0 : Int32)), .val (.int (0 : Int32)), .val (.int (1 : Int32)), .unset] []))
  refine OGets.step (fun _ => XS.iloadN X0.here hx rfl (hb hby dm3_55) rfl) ?_
  show OGets p e below _ (s₁.setTop (mkF m 56 #[.val (.int (7 : Int32)), .val (.int (0 : Int32)), .val (.int (0 : Int32)), .val (.int (1 : Int32)), .unset] [(.int (7 : Int32))]))
  refine OGets.step (fun _ => XS.bipush X0.here hx rfl (hb hby dm3_56)) ?_
  show OGets p e below _ (s₁.setTop (mkF m 58 #[.val (.int (7 : Int32)), .val (.int (0 : Int32)), .val (.int (0 : Int32)), .val (.int (1 : Int32)), .unset] [(.int (11 : Int32)), (.int (7 : Int32))]))
  refine OGets.step (fun _ => XS.icmpYes X0.here hx rfl (pc0 := 58) (pc' := 65) rfl (hb hby dm3_58) rfl (feq (by decide : ¬ ((7 : Int32) = (11 : Int32)))).2 (by decide) (by decide)) ?_
  show OGets p e below _ (s₁.setTop (mkF m 65 #[.val (.int (7 : Int32)), .val (.int (0 : Int32)), .val (.int (0 : Int32)), .val (.int (1 : Int32)), .unset] []))
  refine OGets.step (fun _ => XS.iconst X0.here hx rfl (hb hby dm3_65)) ?_
  show OGets p e below _ (s₁.setTop (mkF m 66 #[.val (.int (7 : Int32)), .val (.int (0 : Int32)), .val (.int (0 : Int32)), .val (.int (1 : Int32)), .unset] [(.int (0 : Int32))]))
  refine OGets.step (fun _ => XS.istore X0.here hx rfl (hb hby dm3_66) rfl (l' := #[.val (.int (7 : Int32)), .val (.int (0 : Int32)), .val (.int (0 : Int32)), .val (.int (1 : Int32)), .val (.int (0 : Int32))]) rfl) ?_
  show OGets p e below _ (s₁.setTop (mkF m 68 #[.val (.int (7 : Int32)), .val (.int (0 : Int32)), .val (.int (0 : Int32)), .val (.int (1 : Int32)), .val (.int (0 : Int32))] []))
  refine OGets.step (fun _ => XS.iloadN X0.here hx rfl (hb hby dm3_68) rfl) ?_
  show OGets p e below _ (s₁.setTop (mkF m 69 #[.val (.int (7 : Int32)), .val (.int (0 : Int32)), .val (.int (0 : Int32)), .val (.int (1 : Int32)), .val (.int (0 : Int32))] [(.int (0 : Int32))]))
  refine OGets.step (fun _ => XS.ifNo X0.here hx rfl (hb hby dm3_69) rfl ((if0 _ _).trans (teq (by decide : (0 : Int32) = (0 : Int32))).2)) ?_
  show OGets p e below _ (s₁.setTop (mkF m 72 #[.val (.int (7 : Int32)), .val (.int (0 : Int32)), .val (.int (0 : Int32)), .val (.int (1 : Int32)), .val (.int (0 : Int32))] []))
  refine OGets.step (fun _ => XS.iloadN X0.here hx rfl (hb hby dm3_72) rfl) ?_
  show OGets p e below _ (s₁.setTop (mkF m 73 #[.val (.int (7 : Int32)), .val (.int (0 : Int32)), .val (.int (0 : Int32)), .val (.int (1 : Int32)), .val (.int (0 : Int32))] [(.int (0 : Int32))]))
  refine OGets.step (fun _ => XS.ifNo X0.here hx rfl (hb hby dm3_73) rfl ((if0 _ _).trans (teq (by decide : (0 : Int32) = (0 : Int32))).2)) ?_
  show OGets p e below _ (s₁.setTop (mkF m 76 #[.val (.int (7 : Int32)), .val (.int (0 : Int32)), .val (.int (0 : Int32)), .val (.int (1 : Int32)), .val (.int (0 : Int32))] []))
  refine OGets.step (fun _ => XS.iloadN X0.here hx rfl (hb hby dm3_76) rfl) ?_
  show OGets p e below _ (s₁.setTop (mkF m 77 #[.val (.int (7 : Int32)), .val (.int (0 : Int32)), .val (.int (0 : Int32)), .val (.int (1 : Int32)), .val (.int (0 : Int32))] [(.int (1 : Int32))]))
  refine OGets.step (fun _ => XS.ifYes X0.here hx rfl (pc0 := 77) (pc' := 85) rfl (hb hby dm3_77) rfl ((if0 _ _).trans (feq (by decide : ¬ ((1 : Int32) = (0 : Int32)))).2) (by decide) (by decide)) ?_
  show OGets p e below _ (s₁.setTop (mkF m 85 #[.val (.int (7 : Int32)), .val (.int (0 : Int32)), .val (.int (0 : Int32)), .val (.int (1 : Int32)), .val (.int (0 : Int32))] []))
  refine OGets.step (fun _ => XS.iconst X0.here hx rfl (hb hby dm3_85)) ?_
  show OGets p e below _ (s₁.setTop (mkF m 86 #[.val (.int (7 : Int32)), .val (.int (0 : Int32)), .val (.int (0 : Int32)), .val (.int (1 : Int32)), .val (.int (0 : Int32))] [(.int (1 : Int32))]))
  refine OGets.step (fun _ => XS.goto X0.here hx rfl (pc0 := 86) (pc' := 90) rfl (hb hby dm3_86) (by decide) (by decide)) ?_
  show OGets p e below _ (s₁.setTop (mkF m 90 #[.val (.int (7 : Int32)), .val (.int (0 : Int32)), .val (.int (0 : Int32)), .val (.int (1 : Int32)), .val (.int (0 : Int32))] [(.int (1 : Int32))]))
  refine OGets.retN X0 hx hlk (t := .boolean) Bd.returns (by simp) (hb hby dm3_90) (Nat.le_of_ble_eq_true rfl) (Nat.le_of_ble_eq_true rfl) ?_
  exact ⟨rfl, rfl, e0⟩
theorem dm2_73 : decode method_2_code 73 = .ok (.iload_n 0, 1) := by decide +kernel
theorem dm2_74 : decode method_2_code 74 = .ok (.bipush 8, 2) := by decide +kernel
theorem dm2_76 : decode method_2_code 76 = .ok (.if_icmp .ne 7, 3) := by decide +kernel
theorem dm2_79 : decode method_2_code 79 = .ok (.getstatic 34, 3) := by decide +kernel
theorem dm2_82 : decode method_2_code 82 = .ok (.areturn, 1) := by decide +kernel
theorem ef_pk8 (m : MethodId) (x0 : Int32) : entryFrame m #[(.int x0)] 1 = mkF m 0 #[.val (.int x0)] [] := by first | (simp [entryFrame, mkF, argsToLocals, Value.category]; done) | rfl
def Q_pk8 (Z : State) (A : Nat → Addr) (h0 : Heap) (n0 : Nat) (v : Option Value) (h : Heap) (L : List Loc) : Prop := v = some (.ref (A 8)) ∧ L = [] ∧ h = h0
set_option maxRecDepth 65536 in
set_option maxHeartbeats 40000000 in
theorem rm_pk8 (l : Launch) (Z : State) (a0 : Array Value) (hw : ∀ d ∈ tables_1, d.before a0 Z = true) (ws : List Jvm.Cond) (A : Nat → Addr) (h0 : Heap) (n0 : Nat) (Z0 : n0 ≤ h0.size) (hS : ∀ i, i < 13 → Sta Z h0 "com/example/pelt/pelt/Axis" (nmOf i) "Lcom/example/pelt/pelt/Axis;" (.ref (A i))) (hI : ∀ i j, i < 13 → j < 13 → A i = A j → i = j) :
    MetFree l (⟨"com/example/pelt/pelt/AxisListsOverlapPinLaw", "pick", "(I)Lcom/example/pelt/pelt/Axis;"⟩ : MethodName) (head1 (Jvm.Cond.code (⟨"com/example/pelt/pelt/AxisListsOverlapPinLaw", "pick", "(I)Lcom/example/pelt/pelt/Axis;"⟩ : MethodName) method_2_code 1 (some (.object "com/example/pelt/pelt/Axis")) :: ws) ({ frames := 0, cells := 0, slots := 0, locals := 0 } : Room)) (fun a_ U => a_ = #[(.int (8 : Int32))] ∧ Z.Warmed39 U.vm ∧ U.heap = h0) (fun _ _ _ _ _ => True) (fun _ U o U' => ∃ v L, o = .returned v ∧ Q_pk8 Z A h0 n0 v U'.heap L ∧ FrameEnd U o U' L ({ frames := 0, cells := 0, slots := 0, locals := 0 } : Room).cells ({ frames := 0, cells := 0, slots := 0, locals := 0 } : Room).slots) := by
  refine MetFree.of_bodySF (plainFor_of_name pn_0) hisR ?_
  intro p e s m args below meth c s₁ Bd hml0 hP hK
  obtain ⟨rfl, hZ, hh⟩ := hP
  have hx := Bd.exec
  have hby := Bd.bytes
  have hlk : meth.locks = false := Bd.notSynchronized
  have hml : c.maxLocals = 1 := hml0
  have hown : s.vm.findClass "com/example/pelt/pelt/AxisListsOverlapPinLaw" = some m.cls := findClass_of_methodNamed Bd.named
  have hnm := (name_of_methodNamed Bd.named Bd.method).1
  have X0 : Stand p l e ({ frames := 0, cells := 0, slots := 0, locals := 0 } : Room) s m #[(.int (8 : Int32))] below meth c s₁ [] 0 0 := Stand.of_body Bd
  have e0 : s₁.heap = h0 := by rw [← hh, Bd.state]; rfl
  have N0 := Fr.nil n0
  show OGets p e below (OLeaves s (Q_pk8 Z A h0 n0 ) ({ frames := 0, cells := 0, slots := 0, locals := 0 } : Room).cells ({ frames := 0, cells := 0, slots := 0, locals := 0 } : Room).slots) _
  refine OGets.enter (ef_pk8 m (8 : Int32)) ?_
  show OGets p e below _ (s₁.setTop (mkF m 0 #[.val (.int (8 : Int32))] []))
  refine OGets.step (fun _ => XS.iloadN X0.here hx rfl (hb hby dm2_0) rfl) ?_
  show OGets p e below _ (s₁.setTop (mkF m 1 #[.val (.int (8 : Int32))] [(.int (8 : Int32))]))
  refine OGets.step (fun _ => XS.ifYes X0.here hx rfl (pc0 := 1) (pc' := 8) rfl (hb hby dm2_1) rfl ((if0 _ _).trans (feq (by decide : ¬ ((8 : Int32) = (0 : Int32)))).2) (by decide) (by decide)) ?_
  show OGets p e below _ (s₁.setTop (mkF m 8 #[.val (.int (8 : Int32))] []))
  refine OGets.step (fun _ => XS.iloadN X0.here hx rfl (hb hby dm2_8) rfl) ?_
  show OGets p e below _ (s₁.setTop (mkF m 9 #[.val (.int (8 : Int32))] [(.int (8 : Int32))]))
  refine OGets.step (fun _ => XS.iconst X0.here hx rfl (hb hby dm2_9)) ?_
  show OGets p e below _ (s₁.setTop (mkF m 10 #[.val (.int (8 : Int32))] [(.int (1 : Int32)), (.int (8 : Int32))]))
  refine OGets.step (fun _ => XS.icmpYes X0.here hx rfl (pc0 := 10) (pc' := 17) rfl (hb hby dm2_10) rfl (feq (by decide : ¬ ((8 : Int32) = (1 : Int32)))).2 (by decide) (by decide)) ?_
  show OGets p e below _ (s₁.setTop (mkF m 17 #[.val (.int (8 : Int32))] []))
  refine OGets.step (fun _ => XS.iloadN X0.here hx rfl (hb hby dm2_17) rfl) ?_
  show OGets p e below _ (s₁.setTop (mkF m 18 #[.val (.int (8 : Int32))] [(.int (8 : Int32))]))
  refine OGets.step (fun _ => XS.iconst X0.here hx rfl (hb hby dm2_18)) ?_
  show OGets p e below _ (s₁.setTop (mkF m 19 #[.val (.int (8 : Int32))] [(.int (2 : Int32)), (.int (8 : Int32))]))
  refine OGets.step (fun _ => XS.icmpYes X0.here hx rfl (pc0 := 19) (pc' := 26) rfl (hb hby dm2_19) rfl (feq (by decide : ¬ ((8 : Int32) = (2 : Int32)))).2 (by decide) (by decide)) ?_
  show OGets p e below _ (s₁.setTop (mkF m 26 #[.val (.int (8 : Int32))] []))
  refine OGets.step (fun _ => XS.iloadN X0.here hx rfl (hb hby dm2_26) rfl) ?_
  show OGets p e below _ (s₁.setTop (mkF m 27 #[.val (.int (8 : Int32))] [(.int (8 : Int32))]))
  refine OGets.step (fun _ => XS.iconst X0.here hx rfl (hb hby dm2_27)) ?_
  show OGets p e below _ (s₁.setTop (mkF m 28 #[.val (.int (8 : Int32))] [(.int (3 : Int32)), (.int (8 : Int32))]))
  refine OGets.step (fun _ => XS.icmpYes X0.here hx rfl (pc0 := 28) (pc' := 35) rfl (hb hby dm2_28) rfl (feq (by decide : ¬ ((8 : Int32) = (3 : Int32)))).2 (by decide) (by decide)) ?_
  show OGets p e below _ (s₁.setTop (mkF m 35 #[.val (.int (8 : Int32))] []))
  refine OGets.step (fun _ => XS.iloadN X0.here hx rfl (hb hby dm2_35) rfl) ?_
  show OGets p e below _ (s₁.setTop (mkF m 36 #[.val (.int (8 : Int32))] [(.int (8 : Int32))]))
  refine OGets.step (fun _ => XS.iconst X0.here hx rfl (hb hby dm2_36)) ?_
  show OGets p e below _ (s₁.setTop (mkF m 37 #[.val (.int (8 : Int32))] [(.int (4 : Int32)), (.int (8 : Int32))]))
  refine OGets.step (fun _ => XS.icmpYes X0.here hx rfl (pc0 := 37) (pc' := 44) rfl (hb hby dm2_37) rfl (feq (by decide : ¬ ((8 : Int32) = (4 : Int32)))).2 (by decide) (by decide)) ?_
  show OGets p e below _ (s₁.setTop (mkF m 44 #[.val (.int (8 : Int32))] []))
  refine OGets.step (fun _ => XS.iloadN X0.here hx rfl (hb hby dm2_44) rfl) ?_
  show OGets p e below _ (s₁.setTop (mkF m 45 #[.val (.int (8 : Int32))] [(.int (8 : Int32))]))
  refine OGets.step (fun _ => XS.iconst X0.here hx rfl (hb hby dm2_45)) ?_
  show OGets p e below _ (s₁.setTop (mkF m 46 #[.val (.int (8 : Int32))] [(.int (5 : Int32)), (.int (8 : Int32))]))
  refine OGets.step (fun _ => XS.icmpYes X0.here hx rfl (pc0 := 46) (pc' := 53) rfl (hb hby dm2_46) rfl (feq (by decide : ¬ ((8 : Int32) = (5 : Int32)))).2 (by decide) (by decide)) ?_
  show OGets p e below _ (s₁.setTop (mkF m 53 #[.val (.int (8 : Int32))] []))
  refine OGets.step (fun _ => XS.iloadN X0.here hx rfl (hb hby dm2_53) rfl) ?_
  show OGets p e below _ (s₁.setTop (mkF m 54 #[.val (.int (8 : Int32))] [(.int (8 : Int32))]))
  refine OGets.step (fun _ => XS.bipush X0.here hx rfl (hb hby dm2_54)) ?_
  show OGets p e below _ (s₁.setTop (mkF m 56 #[.val (.int (8 : Int32))] [(.int (6 : Int32)), (.int (8 : Int32))]))
  refine OGets.step (fun _ => XS.icmpYes X0.here hx rfl (pc0 := 56) (pc' := 63) rfl (hb hby dm2_56) rfl (feq (by decide : ¬ ((8 : Int32) = (6 : Int32)))).2 (by decide) (by decide)) ?_
  show OGets p e below _ (s₁.setTop (mkF m 63 #[.val (.int (8 : Int32))] []))
  refine OGets.step (fun _ => XS.iloadN X0.here hx rfl (hb hby dm2_63) rfl) ?_
  show OGets p e below _ (s₁.setTop (mkF m 64 #[.val (.int (8 : Int32))] [(.int (8 : Int32))]))
  refine OGets.step (fun _ => XS.bipush X0.here hx rfl (hb hby dm2_64)) ?_
  show OGets p e below _ (s₁.setTop (mkF m 66 #[.val (.int (8 : Int32))] [(.int (7 : Int32)), (.int (8 : Int32))]))
  refine OGets.step (fun _ => XS.icmpYes X0.here hx rfl (pc0 := 66) (pc' := 73) rfl (hb hby dm2_66) rfl (feq (by decide : ¬ ((8 : Int32) = (7 : Int32)))).2 (by decide) (by decide)) ?_
  show OGets p e below _ (s₁.setTop (mkF m 73 #[.val (.int (8 : Int32))] []))
  refine OGets.step (fun _ => XS.iloadN X0.here hx rfl (hb hby dm2_73) rfl) ?_
  show OGets p e below _ (s₁.setTop (mkF m 74 #[.val (.int (8 : Int32))] [(.int (8 : Int32))]))
  refine OGets.step (fun _ => XS.bipush X0.here hx rfl (hb hby dm2_74)) ?_
  show OGets p e below _ (s₁.setTop (mkF m 76 #[.val (.int (8 : Int32))] [(.int (8 : Int32)), (.int (8 : Int32))]))
  refine OGets.step (fun _ => XS.icmpNo X0.here hx rfl (hb hby dm2_76) rfl (teq (by decide : (8 : Int32) = (8 : Int32))).2) ?_
  show OGets p e below _ (s₁.setTop (mkF m 79 #[.val (.int (8 : Int32))] []))
  obtain ⟨T195, X195, e195, st195⟩ := getS2 X0 hx hZ hown (host := "") (Or.inl (hw _ (List.mem_of_getElem? (i := 65) rfl))) Via.refl e0 (show Sta Z h0 "com/example/pelt/pelt/Axis" "NAMESPACE" "Lcom/example/pelt/pelt/Axis;" (.ref (A 8)) from hS 8 (by decide)) (g := (mkF m 79 #[.val (.int (8 : Int32))] [])) rfl (hb hby dm2_79)
  refine OGets.step st195 ?_
  show OGets p e below _ (T195.setTop (mkF m 82 #[.val (.int (8 : Int32))] [(.ref (A 8))]))
  refine OGets.retA X195 hx hlk (t := (.object "com/example/pelt/pelt/Axis")) Bd.returns rfl rfl rfl (hb hby dm2_82) (Nat.le_of_ble_eq_true rfl) (Nat.le_of_ble_eq_true rfl) ?_
  exact ⟨rfl, rfl, e195⟩
theorem ef_lo8 (m : MethodId) (x0 : Addr) : entryFrame m #[(.ref x0)] 1 = mkF m 0 #[.val (.ref x0)] [] := by first | (simp [entryFrame, mkF, argsToLocals, Value.category]; done) | rfl
def Q_lo8 (Z : State) (A : Nat → Addr) (h0 : Heap) (n0 : Nat) (v : Option Value) (h : Heap) (L : List Loc) : Prop := v = some (.int (0 : Int32)) ∧ L = [] ∧ h = h0
set_option maxRecDepth 65536 in
set_option maxHeartbeats 40000000 in
theorem rm_lo8 (l : Launch) (Z : State) (a0 : Array Value) (hw : ∀ d ∈ tables_1, d.before a0 Z = true) (ws : List Jvm.Cond) (A : Nat → Addr) (h0 : Heap) (n0 : Nat) (Z0 : n0 ≤ h0.size) (hS : ∀ i, i < 13 → Sta Z h0 "com/example/pelt/pelt/Axis" (nmOf i) "Lcom/example/pelt/pelt/Axis;" (.ref (A i))) (hI : ∀ i j, i < 13 → j < 13 → A i = A j → i = j) :
    MetFree l (⟨"com/example/pelt/pelt/Axis", "listsOverlap", "()Z"⟩ : MethodName) (head1 (Jvm.Cond.code (⟨"com/example/pelt/pelt/Axis", "listsOverlap", "()Z"⟩ : MethodName) prog_3_method_15_code 1 (some .boolean) :: ws) ({ frames := 0, cells := 0, slots := 0, locals := 0 } : Room)) (fun a_ U => a_ = #[(.ref (A 8))] ∧ Z.Warmed39 U.vm ∧ U.heap = h0) (fun _ _ _ _ _ => True) (fun _ U o U' => ∃ v L, o = .returned v ∧ Q_lo8 Z A h0 n0 v U'.heap L ∧ FrameEnd U o U' L ({ frames := 0, cells := 0, slots := 0, locals := 0 } : Room).cells ({ frames := 0, cells := 0, slots := 0, locals := 0 } : Room).slots) := by
  refine MetFree.of_bodySF (plainFor_of_name pn_1) hisR ?_
  intro p e s m args below meth c s₁ Bd hml0 hP hK
  obtain ⟨rfl, hZ, hh⟩ := hP
  have hx := Bd.exec
  have hby := Bd.bytes
  have hlk : meth.locks = false := Bd.notSynchronized
  have hml : c.maxLocals = 1 := hml0
  have hown : s.vm.findClass "com/example/pelt/pelt/Axis" = some m.cls := findClass_of_methodNamed Bd.named
  have hnm := (name_of_methodNamed Bd.named Bd.method).1
  have X0 : Stand p l e ({ frames := 0, cells := 0, slots := 0, locals := 0 } : Room) s m #[(.ref (A 8))] below meth c s₁ [] 0 0 := Stand.of_body Bd
  have e0 : s₁.heap = h0 := by rw [← hh, Bd.state]; rfl
  have N0 := Fr.nil n0
  show OGets p e below (OLeaves s (Q_lo8 Z A h0 n0 ) ({ frames := 0, cells := 0, slots := 0, locals := 0 } : Room).cells ({ frames := 0, cells := 0, slots := 0, locals := 0 } : Room).slots) _
  refine OGets.enter (ef_lo8 m (A 8)) ?_
  show OGets p e below _ (s₁.setTop (mkF m 0 #[.val (.ref (A 8))] []))
  refine OGets.step (fun _ => XS.aloadN X0.here hx rfl (hb hby d3m15_0) rfl rfl) ?_
  show OGets p e below _ (s₁.setTop (mkF m 1 #[.val (.ref (A 8))] [(.ref (A 8))]))
  obtain ⟨T196, X196, e196, st196⟩ := getS2 X0 hx hZ hown (host := "") (Or.inl (hw _ (List.mem_of_getElem? (i := 13) rfl))) Via.refl e0 (show Sta Z h0 "com/example/pelt/pelt/Axis" "CHILD" "Lcom/example/pelt/pelt/Axis;" (.ref (A 3)) from hS 3 (by decide)) (g := (mkF m 1 #[.val (.ref (A 8))] [(.ref (A 8))])) rfl (hb hby d3m15_1)
  refine OGets.step st196 ?_
  show OGets p e below _ (T196.setTop (mkF m 4 #[.val (.ref (A 8))] [(.ref (A 3)), (.ref (A 8))]))
  refine OGets.step (fun _ => Jvm.RoadKit.acmp (g := (mkF m 4 #[.val (.ref (A 8))] [(.ref (A 3)), (.ref (A 8))])) X196 hx rfl rfl rfl (pc0 := 4) (pc' := 7) (same := false) rfl (hb hby d3m15_4) rfl (decide_eq_false fun q => absurd (hI 8 3 (by decide) (by decide) (Value.ref.inj q)) (by decide)) (by decide) (by decide)) ?_
  show OGets p e below _ (T196.setTop (mkF m 7 #[.val (.ref (A 8))] []))
  refine OGets.step (fun _ => XS.aloadN X196.here hx rfl (hb hby d3m15_7) rfl rfl) ?_
  show OGets p e below _ (T196.setTop (mkF m 8 #[.val (.ref (A 8))] [(.ref (A 8))]))
  obtain ⟨T197, X197, e197, st197⟩ := getS2 X196 hx hZ hown (host := "") (Or.inl (hw _ (List.mem_of_getElem? (i := 15) rfl))) Via.refl e196 (show Sta Z h0 "com/example/pelt/pelt/Axis" "ATTRIBUTE" "Lcom/example/pelt/pelt/Axis;" (.ref (A 2)) from hS 2 (by decide)) (g := (mkF m 8 #[.val (.ref (A 8))] [(.ref (A 8))])) rfl (hb hby d3m15_8)
  refine OGets.step st197 ?_
  show OGets p e below _ (T197.setTop (mkF m 11 #[.val (.ref (A 8))] [(.ref (A 2)), (.ref (A 8))]))
  refine OGets.step (fun _ => Jvm.RoadKit.acmp (g := (mkF m 11 #[.val (.ref (A 8))] [(.ref (A 2)), (.ref (A 8))])) X197 hx rfl rfl rfl (pc0 := 11) (pc' := 14) (same := false) rfl (hb hby d3m15_11) rfl (decide_eq_false fun q => absurd (hI 8 2 (by decide) (by decide) (Value.ref.inj q)) (by decide)) (by decide) (by decide)) ?_
  show OGets p e below _ (T197.setTop (mkF m 14 #[.val (.ref (A 8))] []))
  refine OGets.step (fun _ => XS.aloadN X197.here hx rfl (hb hby d3m15_14) rfl rfl) ?_
  show OGets p e below _ (T197.setTop (mkF m 15 #[.val (.ref (A 8))] [(.ref (A 8))]))
  obtain ⟨T198, X198, e198, st198⟩ := getS2 X197 hx hZ hown (host := "") (Or.inl (hw _ (List.mem_of_getElem? (i := 17) rfl))) Via.refl e197 (show Sta Z h0 "com/example/pelt/pelt/Axis" "NAMESPACE" "Lcom/example/pelt/pelt/Axis;" (.ref (A 8)) from hS 8 (by decide)) (g := (mkF m 15 #[.val (.ref (A 8))] [(.ref (A 8))])) rfl (hb hby d3m15_15)
  refine OGets.step st198 ?_
  show OGets p e below _ (T198.setTop (mkF m 18 #[.val (.ref (A 8))] [(.ref (A 8)), (.ref (A 8))]))
  refine OGets.step (fun _ => Jvm.RoadKit.acmp (g := (mkF m 18 #[.val (.ref (A 8))] [(.ref (A 8)), (.ref (A 8))])) X198 hx rfl rfl rfl (pc0 := 18) (pc' := 39) (same := true) rfl (hb hby d3m15_18) rfl (decide_eq_true rfl) (by decide) (by decide)) ?_
  show OGets p e below _ (T198.setTop (mkF m 39 #[.val (.ref (A 8))] []))
  refine OGets.step (fun _ => XS.iconst X198.here hx rfl (hb hby d3m15_39)) ?_
  show OGets p e below _ (T198.setTop (mkF m 40 #[.val (.ref (A 8))] [(.int (0 : Int32))]))
  refine OGets.retN X198 hx hlk (t := .boolean) Bd.returns (by simp) (hb hby d3m15_40) (Nat.le_of_ble_eq_true rfl) (Nat.le_of_ble_eq_true rfl) ?_
  exact ⟨rfl, rfl, e198⟩
theorem ef_rv8 (m : MethodId) (x0 : Addr) : entryFrame m #[(.ref x0)] 1 = mkF m 0 #[.val (.ref x0)] [] := by first | (simp [entryFrame, mkF, argsToLocals, Value.category]; done) | rfl
def Q_rv8 (Z : State) (A : Nat → Addr) (h0 : Heap) (n0 : Nat) (v : Option Value) (h : Heap) (L : List Loc) : Prop := v = some (.int (0 : Int32)) ∧ L = [] ∧ h = h0
set_option maxRecDepth 65536 in
set_option maxHeartbeats 40000000 in
theorem rm_rv8 (l : Launch) (Z : State) (a0 : Array Value) (hw : ∀ d ∈ tables_1, d.before a0 Z = true) (ws : List Jvm.Cond) (A : Nat → Addr) (h0 : Heap) (n0 : Nat) (Z0 : n0 ≤ h0.size) (hS : ∀ i, i < 13 → Sta Z h0 "com/example/pelt/pelt/Axis" (nmOf i) "Lcom/example/pelt/pelt/Axis;" (.ref (A i))) (hI : ∀ i j, i < 13 → j < 13 → A i = A j → i = j) :
    MetFree l (⟨"com/example/pelt/pelt/Axis", "isReverse", "()Z"⟩ : MethodName) (head1 (Jvm.Cond.code (⟨"com/example/pelt/pelt/Axis", "isReverse", "()Z"⟩ : MethodName) prog_3_method_6_code 1 (some .boolean) :: ws) ({ frames := 0, cells := 0, slots := 0, locals := 0 } : Room)) (fun a_ U => a_ = #[(.ref (A 8))] ∧ Z.Warmed39 U.vm ∧ U.heap = h0) (fun _ _ _ _ _ => True) (fun _ U o U' => ∃ v L, o = .returned v ∧ Q_rv8 Z A h0 n0 v U'.heap L ∧ FrameEnd U o U' L ({ frames := 0, cells := 0, slots := 0, locals := 0 } : Room).cells ({ frames := 0, cells := 0, slots := 0, locals := 0 } : Room).slots) := by
  refine MetFree.of_bodySF (plainFor_of_name pn_1) hisR ?_
  intro p e s m args below meth c s₁ Bd hml0 hP hK
  obtain ⟨rfl, hZ, hh⟩ := hP
  have hx := Bd.exec
  have hby := Bd.bytes
  have hlk : meth.locks = false := Bd.notSynchronized
  have hml : c.maxLocals = 1 := hml0
  have hown : s.vm.findClass "com/example/pelt/pelt/Axis" = some m.cls := findClass_of_methodNamed Bd.named
  have hnm := (name_of_methodNamed Bd.named Bd.method).1
  have X0 : Stand p l e ({ frames := 0, cells := 0, slots := 0, locals := 0 } : Room) s m #[(.ref (A 8))] below meth c s₁ [] 0 0 := Stand.of_body Bd
  have e0 : s₁.heap = h0 := by rw [← hh, Bd.state]; rfl
  have N0 := Fr.nil n0
  show OGets p e below (OLeaves s (Q_rv8 Z A h0 n0 ) ({ frames := 0, cells := 0, slots := 0, locals := 0 } : Room).cells ({ frames := 0, cells := 0, slots := 0, locals := 0 } : Room).slots) _
  refine OGets.enter (ef_rv8 m (A 8)) ?_
  show OGets p e below _ (s₁.setTop (mkF m 0 #[.val (.ref (A 8))] []))
  refine OGets.step (fun _ => XS.aloadN X0.here hx rfl (hb hby d3m6_0) rfl rfl) ?_
  show OGets p e below _ (s₁.setTop (mkF m 1 #[.val (.ref (A 8))] [(.ref (A 8))]))
  obtain ⟨T199, X199, e199, st199⟩ := getS2 X0 hx hZ hown (host := "") (Or.inl (hw _ (List.mem_of_getElem? (i := 28) rfl))) Via.refl e0 (show Sta Z h0 "com/example/pelt/pelt/Axis" "ANCESTOR" "Lcom/example/pelt/pelt/Axis;" (.ref (A 0)) from hS 0 (by decide)) (g := (mkF m 1 #[.val (.ref (A 8))] [(.ref (A 8))])) rfl (hb hby d3m6_1)
  refine OGets.step st199 ?_
  show OGets p e below _ (T199.setTop (mkF m 4 #[.val (.ref (A 8))] [(.ref (A 0)), (.ref (A 8))]))
  refine OGets.step (fun _ => Jvm.RoadKit.acmp (g := (mkF m 4 #[.val (.ref (A 8))] [(.ref (A 0)), (.ref (A 8))])) X199 hx rfl rfl rfl (pc0 := 4) (pc' := 7) (same := false) rfl (hb hby d3m6_4) rfl (decide_eq_false fun q => absurd (hI 8 0 (by decide) (by decide) (Value.ref.inj q)) (by decide)) (by decide) (by decide)) ?_
  show OGets p e below _ (T199.setTop (mkF m 7 #[.val (.ref (A 8))] []))
  refine OGets.step (fun _ => XS.aloadN X199.here hx rfl (hb hby d3m6_7) rfl rfl) ?_
  show OGets p e below _ (T199.setTop (mkF m 8 #[.val (.ref (A 8))] [(.ref (A 8))]))
  obtain ⟨T200, X200, e200, st200⟩ := getS2 X199 hx hZ hown (host := "") (Or.inl (hw _ (List.mem_of_getElem? (i := 35) rfl))) Via.refl e199 (show Sta Z h0 "com/example/pelt/pelt/Axis" "ANCESTOR_OR_SELF" "Lcom/example/pelt/pelt/Axis;" (.ref (A 1)) from hS 1 (by decide)) (g := (mkF m 8 #[.val (.ref (A 8))] [(.ref (A 8))])) rfl (hb hby d3m6_8)
  refine OGets.step st200 ?_
  show OGets p e below _ (T200.setTop (mkF m 11 #[.val (.ref (A 8))] [(.ref (A 1)), (.ref (A 8))]))
  refine OGets.step (fun _ => Jvm.RoadKit.acmp (g := (mkF m 11 #[.val (.ref (A 8))] [(.ref (A 1)), (.ref (A 8))])) X200 hx rfl rfl rfl (pc0 := 11) (pc' := 14) (same := false) rfl (hb hby d3m6_11) rfl (decide_eq_false fun q => absurd (hI 8 1 (by decide) (by decide) (Value.ref.inj q)) (by decide)) (by decide) (by decide)) ?_
  show OGets p e below _ (T200.setTop (mkF m 14 #[.val (.ref (A 8))] []))
  refine OGets.step (fun _ => XS.aloadN X200.here hx rfl (hb hby d3m6_14) rfl rfl) ?_
  show OGets p e below _ (T200.setTop (mkF m 15 #[.val (.ref (A 8))] [(.ref (A 8))]))
  obtain ⟨T201, X201, e201, st201⟩ := getS2 X200 hx hZ hown (host := "") (Or.inl (hw _ (List.mem_of_getElem? (i := 37) rfl))) Via.refl e200 (show Sta Z h0 "com/example/pelt/pelt/Axis" "PRECEDING" "Lcom/example/pelt/pelt/Axis;" (.ref (A 10)) from hS 10 (by decide)) (g := (mkF m 15 #[.val (.ref (A 8))] [(.ref (A 8))])) rfl (hb hby d3m6_15)
  refine OGets.step st201 ?_
  show OGets p e below _ (T201.setTop (mkF m 18 #[.val (.ref (A 8))] [(.ref (A 10)), (.ref (A 8))]))
  refine OGets.step (fun _ => Jvm.RoadKit.acmp (g := (mkF m 18 #[.val (.ref (A 8))] [(.ref (A 10)), (.ref (A 8))])) X201 hx rfl rfl rfl (pc0 := 18) (pc' := 21) (same := false) rfl (hb hby d3m6_18) rfl (decide_eq_false fun q => absurd (hI 8 10 (by decide) (by decide) (Value.ref.inj q)) (by decide)) (by decide) (by decide)) ?_
  show OGets p e below _ (T201.setTop (mkF m 21 #[.val (.ref (A 8))] []))
  refine OGets.step (fun _ => XS.aloadN X201.here hx rfl (hb hby d3m6_21) rfl rfl) ?_
  show OGets p e below _ (T201.setTop (mkF m 22 #[.val (.ref (A 8))] [(.ref (A 8))]))
  obtain ⟨T202, X202, e202, st202⟩ := getS2 X201 hx hZ hown (host := "") (Or.inl (hw _ (List.mem_of_getElem? (i := 39) rfl))) Via.refl e201 (show Sta Z h0 "com/example/pelt/pelt/Axis" "PRECEDING_SIBLING" "Lcom/example/pelt/pelt/Axis;" (.ref (A 11)) from hS 11 (by decide)) (g := (mkF m 22 #[.val (.ref (A 8))] [(.ref (A 8))])) rfl (hb hby d3m6_22)
  refine OGets.step st202 ?_
  show OGets p e below _ (T202.setTop (mkF m 25 #[.val (.ref (A 8))] [(.ref (A 11)), (.ref (A 8))]))
  refine OGets.step (fun _ => Jvm.RoadKit.acmp (g := (mkF m 25 #[.val (.ref (A 8))] [(.ref (A 11)), (.ref (A 8))])) X202 hx rfl rfl rfl (pc0 := 25) (pc' := 32) (same := false) rfl (hb hby d3m6_25) rfl (decide_eq_false fun q => absurd (hI 8 11 (by decide) (by decide) (Value.ref.inj q)) (by decide)) (by decide) (by decide)) ?_
  show OGets p e below _ (T202.setTop (mkF m 32 #[.val (.ref (A 8))] []))
  refine OGets.step (fun _ => XS.iconst X202.here hx rfl (hb hby d3m6_32)) ?_
  show OGets p e below _ (T202.setTop (mkF m 33 #[.val (.ref (A 8))] [(.int (0 : Int32))]))
  refine OGets.retN X202 hx hlk (t := .boolean) Bd.returns (by simp) (hb hby d3m6_33) (Nat.le_of_ble_eq_true rfl) (Nat.le_of_ble_eq_true rfl) ?_
  exact ⟨rfl, rfl, e202⟩
theorem ef_ex8 (m : MethodId) (x0 : Int32) : entryFrame m #[(.int x0)] 5 = mkF m 0 #[.val (.int x0), .unset, .unset, .unset, .unset] [] := by first | (simp [entryFrame, mkF, argsToLocals, Value.category]; done) | rfl
def Q_ex8 (Z : State)  (h0 : Heap) (n0 : Nat) (v : Option Value) (h : Heap) (L : List Loc) : Prop := v = some (.int (0 : Int32)) ∧ L = [] ∧ h = h0
set_option maxRecDepth 65536 in
set_option maxHeartbeats 40000000 in
theorem rm_ex8 (l : Launch) (Z : State) (a0 : Array Value) (hw : ∀ d ∈ tables_1, d.before a0 Z = true) (ws : List Jvm.Cond)  (h0 : Heap) (n0 : Nat) (Z0 : n0 ≤ h0.size) :
    MetFree l (⟨"com/example/pelt/pelt/AxisListsOverlapPinLaw", "expected", "(I)Z"⟩ : MethodName) (head1 (Jvm.Cond.code (⟨"com/example/pelt/pelt/AxisListsOverlapPinLaw", "expected", "(I)Z"⟩ : MethodName) method_3_code 5 (some .boolean) :: ws) ({ frames := 0, cells := 0, slots := 0, locals := 0 } : Room)) (fun a_ U => a_ = #[(.int (8 : Int32))] ∧ Z.Warmed39 U.vm ∧ U.heap = h0) (fun _ _ _ _ _ => True) (fun _ U o U' => ∃ v L, o = .returned v ∧ Q_ex8 Z  h0 n0 v U'.heap L ∧ FrameEnd U o U' L ({ frames := 0, cells := 0, slots := 0, locals := 0 } : Room).cells ({ frames := 0, cells := 0, slots := 0, locals := 0 } : Room).slots) := by
  refine MetFree.of_bodySF (plainFor_of_name pn_0) hisR ?_
  intro p e s m args below meth c s₁ Bd hml0 hP hK
  obtain ⟨rfl, hZ, hh⟩ := hP
  have hx := Bd.exec
  have hby := Bd.bytes
  have hlk : meth.locks = false := Bd.notSynchronized
  have hml : c.maxLocals = 5 := hml0
  have hown : s.vm.findClass "com/example/pelt/pelt/AxisListsOverlapPinLaw" = some m.cls := findClass_of_methodNamed Bd.named
  have hnm := (name_of_methodNamed Bd.named Bd.method).1
  have X0 : Stand p l e ({ frames := 0, cells := 0, slots := 0, locals := 0 } : Room) s m #[(.int (8 : Int32))] below meth c s₁ [] 0 0 := Stand.of_body Bd
  have e0 : s₁.heap = h0 := by rw [← hh, Bd.state]; rfl
  have N0 := Fr.nil n0
  show OGets p e below (OLeaves s (Q_ex8 Z  h0 n0 ) ({ frames := 0, cells := 0, slots := 0, locals := 0 } : Room).cells ({ frames := 0, cells := 0, slots := 0, locals := 0 } : Room).slots) _
  refine OGets.enter (ef_ex8 m (8 : Int32)) ?_
  show OGets p e below _ (s₁.setTop (mkF m 0 #[.val (.int (8 : Int32)), .unset, .unset, .unset, .unset] []))
  refine OGets.step (fun _ => XS.iloadN X0.here hx rfl (hb hby dm3_0) rfl) ?_
  show OGets p e below _ (s₁.setTop (mkF m 1 #[.val (.int (8 : Int32)), .unset, .unset, .unset, .unset] [(.int (8 : Int32))]))
  refine OGets.step (fun _ => XS.ifNo X0.here hx rfl (hb hby dm3_1) rfl ((if0 _ _).trans (feq (by decide : ¬ ((8 : Int32) = (0 : Int32)))).1)) ?_
  show OGets p e below _ (s₁.setTop (mkF m 4 #[.val (.int (8 : Int32)), .unset, .unset, .unset, .unset] []))
  refine OGets.step (fun _ => XS.iloadN X0.here hx rfl (hb hby dm3_4) rfl) ?_
  show OGets p e below _ (s₁.setTop (mkF m 5 #[.val (.int (8 : Int32)), .unset, .unset, .unset, .unset] [(.int (8 : Int32))]))
  refine OGets.step (fun _ => XS.iconst X0.here hx rfl (hb hby dm3_5)) ?_
  show OGets p e below _ (s₁.setTop (mkF m 6 #[.val (.int (8 : Int32)), .unset, .unset, .unset, .unset] [(.int (1 : Int32)), (.int (8 : Int32))]))
  refine OGets.step (fun _ => XS.icmpYes X0.here hx rfl (pc0 := 6) (pc' := 13) rfl (hb hby dm3_6) rfl (feq (by decide : ¬ ((8 : Int32) = (1 : Int32)))).2 (by decide) (by decide)) ?_
  show OGets p e below _ (s₁.setTop (mkF m 13 #[.val (.int (8 : Int32)), .unset, .unset, .unset, .unset] []))
  refine OGets.step (fun _ => XS.iconst X0.here hx rfl (hb hby dm3_13)) ?_
  show OGets p e below _ (s₁.setTop (mkF m 14 #[.val (.int (8 : Int32)), .unset, .unset, .unset, .unset] [(.int (0 : Int32))]))
  refine OGets.step (fun _ => XS.istoreN X0.here hx rfl (hb hby dm3_14) rfl (l' := #[.val (.int (8 : Int32)), .val (.int (0 : Int32)), .unset, .unset, .unset]) rfl) ?_
  show OGets p e below _ (s₁.setTop (mkF m 15 #[.val (.int (8 : Int32)), .val (.int (0 : Int32)), .unset, .unset, .unset] []))
  refine OGets.step (fun _ => XS.iloadN X0.here hx rfl (hb hby dm3_15) rfl) ?_
  show OGets p e below _ (s₁.setTop (mkF m 16 #[.val (.int (8 : Int32)), .val (.int (0 : Int32)), .unset, .unset, .unset] [(.int (8 : Int32))]))
  refine OGets.step (fun _ => XS.iconst X0.here hx rfl (hb hby dm3_16)) ?_
  show OGets p e below _ (s₁.setTop (mkF m 17 #[.val (.int (8 : Int32)), .val (.int (0 : Int32)), .unset, .unset, .unset] [(.int (4 : Int32)), (.int (8 : Int32))]))
  refine OGets.step (fun _ => XS.icmpNo X0.here hx rfl (hb hby dm3_17) rfl (feq (by decide : ¬ ((8 : Int32) = (4 : Int32)))).1) ?_
  show OGets p e below _ (s₁.setTop (mkF m 20 #[.val (.int (8 : Int32)), .val (.int (0 : Int32)), .unset, .unset, .unset] []))
  refine OGets.step (fun _ => XS.iloadN X0.here hx rfl (hb hby dm3_20) rfl) ?_
  show OGets p e below _ (s₁.setTop (mkF m 21 #[.val (.int (8 : Int32)), .val (.int (0 : Int32)), .unset, .unset, .unset] [(.int (8 : Int32))]))
  refine OGets.step (fun _ => XS.iconst X0.here hx rfl (hb hby dm3_21)) ?_
  show OGets p e below _ (s₁.setTop (mkF m 22 #[.val (.int (8 : Int32)), .val (.int (0 : Int32)), .unset, .unset, .unset] [(.int (5 : Int32)), (.int (8 : Int32))]))
  refine OGets.step (fun _ => XS.icmpYes X0.here hx rfl (pc0 := 22) (pc' := 29) rfl (hb hby dm3_22) rfl (feq (by decide : ¬ ((8 : Int32) = (5 : Int32)))).2 (by decide) (by decide)) ?_
  show OGets p e below _ (s₁.setTop (mkF m 29 #[.val (.int (8 : Int32)), .val (.int (0 : Int32)), .unset, .unset, .unset] []))
  refine OGets.step (fun _ => XS.iconst X0.here hx rfl (hb hby dm3_29)) ?_
  show OGets p e below _ (s₁.setTop (mkF m 30 #[.val (.int (8 : Int32)), .val (.int (0 : Int32)), .unset, .unset, .unset] [(.int (0 : Int32))]))
  refine OGets.step (fun _ => XS.istoreN X0.here hx rfl (hb hby dm3_30) rfl (l' := #[.val (.int (8 : Int32)), .val (.int (0 : Int32)), .val (.int (0 : Int32)), .unset, .unset]) rfl) ?_
  show OGets p e below _ (s₁.setTop (mkF m 31 #[.val (.int (8 : Int32)), .val (.int (0 : Int32)), .val (.int (0 : Int32)), .unset, .unset] []))
  refine OGets.step (fun _ => XS.iloadN X0.here hx rfl (hb hby dm3_31) rfl) ?_
  show OGets p e below _ (s₁.setTop (mkF m 32 #[.val (.int (8 : Int32)), .val (.int (0 : Int32)), .val (.int (0 : Int32)), .unset, .unset] [(.int (8 : Int32))]))
  refine OGets.step (fun _ => XS.bipush X0.here hx rfl (hb hby dm3_32)) ?_
  show OGets p e below _ (s₁.setTop (mkF m 34 #[.val (.int (8 : Int32)), .val (.int (0 : Int32)), .val (.int (0 : Int32)), .unset, .unset] [(.int (6 : Int32)), (.int (8 : Int32))]))
  refine OGets.step (fun _ => XS.icmpNo X0.here hx rfl (hb hby dm3_34) rfl (feq (by decide : ¬ ((8 : Int32) = (6 : Int32)))).1) ?_
  show OGets p e below _ (s₁.setTop (mkF m 37 #[.val (.int (8 : Int32)), .val (.int (0 : Int32)), .val (.int (0 : Int32)), .unset, .unset] []))
  refine OGets.step (fun _ => XS.iloadN X0.here hx rfl (hb hby dm3_37) rfl) ?_
  show OGets p e below _ (s₁.setTop (mkF m 38 #[.val (.int (8 : Int32)), .val (.int (0 : Int32)), .val (.int (0 : Int32)), .unset, .unset] [(.int (8 : Int32))]))
  refine OGets.step (fun _ => XS.bipush X0.here hx rfl (hb hby dm3_38)) ?_
  show OGets p e below _ (s₁.setTop (mkF m 40 #[.val (.int (8 : Int32)), .val (.int (0 : Int32)), .val (.int (0 : Int32)), .unset, .unset] [(.int (7 : Int32)), (.int (8 : Int32))]))
  refine OGets.step (fun _ => XS.icmpYes X0.here hx rfl (pc0 := 40) (pc' := 47) rfl (hb hby dm3_40) rfl (feq (by decide : ¬ ((8 : Int32) = (7 : Int32)))).2 (by decide) (by decide)) ?_
  show OGets p e below _ (s₁.setTop (mkF m 47 #[.val (.int (8 : Int32)), .val (.int (0 : Int32)), .val (.int (0 : Int32)), .unset, .unset] []))
  refine OGets.step (fun _ => XS.iconst X0.here hx rfl (hb hby dm3_47)) ?_
  show OGets p e below _ (s₁.setTop (mkF m 48 #[.val (.int (8 : Int32)), .val (.int (0 : Int32)), .val (.int (0 : Int32)), .unset, .unset] [(.int (0 : Int32))]))
  refine OGets.step (fun _ => XS.istoreN X0.here hx rfl (hb hby dm3_48) rfl (l' := #[.val (.int (8 : Int32)), .val (.int (0 : Int32)), .val (.int (0 : Int32)), .val (.int (0 : Int32)), .unset]) rfl) ?_
  show OGets p e below _ (s₁.setTop (mkF m 49 #[.val (.int (8 : Int32)), .val (.int (0 : Int32)), .val (.int (0 : Int32)), .val (.int (0 : Int32)), .unset] []))
  refine OGets.step (fun _ => XS.iloadN X0.here hx rfl (hb hby dm3_49) rfl) ?_
  show OGets p e below _ (s₁.setTop (mkF m 50 #[.val (.int (8 : Int32)), .val (.int (0 : Int32)), .val (.int (0 : Int32)), .val (.int (0 : Int32)), .unset] [(.int (8 : Int32))]))
  refine OGets.step (fun _ => XS.bipush X0.here hx rfl (hb hby dm3_50)) ?_
  show OGets p e below _ (s₁.setTop (mkF m 52 #[.val (.int (8 : Int32)), .val (.int (0 : Int32)), .val (.int (0 : Int32)), .val (.int (0 : Int32)), .unset] [(.int (10 : Int32)), (.int (8 : Int32))]))
  refine OGets.step (fun _ => XS.icmpNo X0.here hx rfl (hb hby dm3_52) rfl (feq (by decide : ¬ ((8 : Int32) = (10 : Int32)))).1) ?_
  show OGets p e below _ (s₁.setTop (mkF m 55 #[.val (.int (8 : Int32)), .val (.int (0 : Int32)), .val (.int (0 : Int32)), .val (.int (0 : Int32)), .unset] []))
  refine OGets.step (fun _ => XS.iloadN X0.here hx rfl (hb hby dm3_55) rfl) ?_
  show OGets p e below _ (s₁.setTop (mkF m 56 #[.val (.int (8 : Int32)), .val (.int (0 : Int32)), .val (.int (0 : Int32)), .val (.int (0 : Int32)), .unset] [(.int (8 : Int32))]))
  refine OGets.step (fun _ => XS.bipush X0.here hx rfl (hb hby dm3_56)) ?_
  show OGets p e below _ (s₁.setTop (mkF m 58 #[.val (.int (8 : Int32)), .val (.int (0 : Int32)), .val (.int (0 : Int32)), .val (.int (0 : Int32)), .unset] [(.int (11 : Int32)), (.int (8 : Int32))]))
  refine OGets.step (fun _ => XS.icmpYes X0.here hx rfl (pc0 := 58) (pc' := 65) rfl (hb hby dm3_58) rfl (feq (by decide : ¬ ((8 : Int32) = (11 : Int32)))).2 (by decide) (by decide)) ?_
  show OGets p e below _ (s₁.setTop (mkF m 65 #[.val (.int (8 : Int32)), .val (.int (0 : Int32)), .val (.int (0 : Int32)), .val (.int (0 : Int32)), .unset] []))
  refine OGets.step (fun _ => XS.iconst X0.here hx rfl (hb hby dm3_65)) ?_
  show OGets p e below _ (s₁.setTop (mkF m 66 #[.val (.int (8 : Int32)), .val (.int (0 : Int32)), .val (.int (0 : Int32)), .val (.int (0 : Int32)), .unset] [(.int (0 : Int32))]))
  refine OGets.step (fun _ => XS.istore X0.here hx rfl (hb hby dm3_66) rfl (l' := #[.val (.int (8 : Int32)), .val (.int (0 : Int32)), .val (.int (0 : Int32)), .val (.int (0 : Int32)), .val (.int (0 : Int32))]) rfl) ?_
  show OGets p e below _ (s₁.setTop (mkF m 68 #[.val (.int (8 : Int32)), .val (.int (0 : Int32)), .val (.int (0 : Int32)), .val (.int (0 : Int32)), .val (.int (0 : Int32))] []))
  refine OGets.step (fun _ => XS.iloadN X0.here hx rfl (hb hby dm3_68) rfl) ?_
  show OGets p e below _ (s₁.setTop (mkF m 69 #[.val (.int (8 : Int32)), .val (.int (0 : Int32)), .val (.int (0 : Int32)), .val (.int (0 : Int32)), .val (.int (0 : Int32))] [(.int (0 : Int32))]))
  refine OGets.step (fun _ => XS.ifNo X0.here hx rfl (hb hby dm3_69) rfl ((if0 _ _).trans (teq (by decide : (0 : Int32) = (0 : Int32))).2)) ?_
  show OGets p e below _ (s₁.setTop (mkF m 72 #[.val (.int (8 : Int32)), .val (.int (0 : Int32)), .val (.int (0 : Int32)), .val (.int (0 : Int32)), .val (.int (0 : Int32))] []))
  refine OGets.step (fun _ => XS.iloadN X0.here hx rfl (hb hby dm3_72) rfl) ?_
  show OGets p e below _ (s₁.setTop (mkF m 73 #[.val (.int (8 : Int32)), .val (.int (0 : Int32)), .val (.int (0 : Int32)), .val (.int (0 : Int32)), .val (.int (0 : Int32))] [(.int (0 : Int32))]))
  refine OGets.step (fun _ => XS.ifNo X0.here hx rfl (hb hby dm3_73) rfl ((if0 _ _).trans (teq (by decide : (0 : Int32) = (0 : Int32))).2)) ?_
  show OGets p e below _ (s₁.setTop (mkF m 76 #[.val (.int (8 : Int32)), .val (.int (0 : Int32)), .val (.int (0 : Int32)), .val (.int (0 : Int32)), .val (.int (0 : Int32))] []))
  refine OGets.step (fun _ => XS.iloadN X0.here hx rfl (hb hby dm3_76) rfl) ?_
  show OGets p e below _ (s₁.setTop (mkF m 77 #[.val (.int (8 : Int32)), .val (.int (0 : Int32)), .val (.int (0 : Int32)), .val (.int (0 : Int32)), .val (.int (0 : Int32))] [(.int (0 : Int32))]))
  refine OGets.step (fun _ => XS.ifNo X0.here hx rfl (hb hby dm3_77) rfl ((if0 _ _).trans (teq (by decide : (0 : Int32) = (0 : Int32))).2)) ?_
  show OGets p e below _ (s₁.setTop (mkF m 80 #[.val (.int (8 : Int32)), .val (.int (0 : Int32)), .val (.int (0 : Int32)), .val (.int (0 : Int32)), .val (.int (0 : Int32))] []))
  refine OGets.step (fun _ => XS.iload X0.here hx rfl (hb hby dm3_80) rfl) ?_
  show OGets p e below _ (s₁.setTop (mkF m 82 #[.val (.int (8 : Int32)), .val (.int (0 : Int32)), .val (.int (0 : Int32)), .val (.int (0 : Int32)), .val (.int (0 : Int32))] [(.int (0 : Int32))]))
  refine OGets.step (fun _ => XS.ifYes X0.here hx rfl (pc0 := 82) (pc' := 89) rfl (hb hby dm3_82) rfl ((if0 _ _).trans (teq (by decide : (0 : Int32) = (0 : Int32))).1) (by decide) (by decide)) ?_
  show OGets p e below _ (s₁.setTop (mkF m 89 #[.val (.int (8 : Int32)), .val (.int (0 : Int32)), .val (.int (0 : Int32)), .val (.int (0 : Int32)), .val (.int (0 : Int32))] []))
  refine OGets.step (fun _ => XS.iconst X0.here hx rfl (hb hby dm3_89)) ?_
  show OGets p e below _ (s₁.setTop (mkF m 90 #[.val (.int (8 : Int32)), .val (.int (0 : Int32)), .val (.int (0 : Int32)), .val (.int (0 : Int32)), .val (.int (0 : Int32))] [(.int (0 : Int32))]))
  refine OGets.retN X0 hx hlk (t := .boolean) Bd.returns (by simp) (hb hby dm3_90) (Nat.le_of_ble_eq_true rfl) (Nat.le_of_ble_eq_true rfl) ?_
  exact ⟨rfl, rfl, e0⟩
theorem dm2_83 : decode method_2_code 83 = .ok (.iload_n 0, 1) := by decide +kernel
theorem dm2_84 : decode method_2_code 84 = .ok (.bipush 9, 2) := by decide +kernel
theorem dm2_86 : decode method_2_code 86 = .ok (.if_icmp .ne 7, 3) := by decide +kernel
theorem dm2_89 : decode method_2_code 89 = .ok (.getstatic 37, 3) := by decide +kernel
theorem dm2_92 : decode method_2_code 92 = .ok (.areturn, 1) := by decide +kernel
theorem ef_pk9 (m : MethodId) (x0 : Int32) : entryFrame m #[(.int x0)] 1 = mkF m 0 #[.val (.int x0)] [] := by first | (simp [entryFrame, mkF, argsToLocals, Value.category]; done) | rfl
def Q_pk9 (Z : State) (A : Nat → Addr) (h0 : Heap) (n0 : Nat) (v : Option Value) (h : Heap) (L : List Loc) : Prop := v = some (.ref (A 9)) ∧ L = [] ∧ h = h0
set_option maxRecDepth 65536 in
set_option maxHeartbeats 40000000 in
theorem rm_pk9 (l : Launch) (Z : State) (a0 : Array Value) (hw : ∀ d ∈ tables_1, d.before a0 Z = true) (ws : List Jvm.Cond) (A : Nat → Addr) (h0 : Heap) (n0 : Nat) (Z0 : n0 ≤ h0.size) (hS : ∀ i, i < 13 → Sta Z h0 "com/example/pelt/pelt/Axis" (nmOf i) "Lcom/example/pelt/pelt/Axis;" (.ref (A i))) (hI : ∀ i j, i < 13 → j < 13 → A i = A j → i = j) :
    MetFree l (⟨"com/example/pelt/pelt/AxisListsOverlapPinLaw", "pick", "(I)Lcom/example/pelt/pelt/Axis;"⟩ : MethodName) (head1 (Jvm.Cond.code (⟨"com/example/pelt/pelt/AxisListsOverlapPinLaw", "pick", "(I)Lcom/example/pelt/pelt/Axis;"⟩ : MethodName) method_2_code 1 (some (.object "com/example/pelt/pelt/Axis")) :: ws) ({ frames := 0, cells := 0, slots := 0, locals := 0 } : Room)) (fun a_ U => a_ = #[(.int (9 : Int32))] ∧ Z.Warmed39 U.vm ∧ U.heap = h0) (fun _ _ _ _ _ => True) (fun _ U o U' => ∃ v L, o = .returned v ∧ Q_pk9 Z A h0 n0 v U'.heap L ∧ FrameEnd U o U' L ({ frames := 0, cells := 0, slots := 0, locals := 0 } : Room).cells ({ frames := 0, cells := 0, slots := 0, locals := 0 } : Room).slots) := by
  refine MetFree.of_bodySF (plainFor_of_name pn_0) hisR ?_
  intro p e s m args below meth c s₁ Bd hml0 hP hK
  obtain ⟨rfl, hZ, hh⟩ := hP
  have hx := Bd.exec
  have hby := Bd.bytes
  have hlk : meth.locks = false := Bd.notSynchronized
  have hml : c.maxLocals = 1 := hml0
  have hown : s.vm.findClass "com/example/pelt/pelt/AxisListsOverlapPinLaw" = some m.cls := findClass_of_methodNamed Bd.named
  have hnm := (name_of_methodNamed Bd.named Bd.method).1
  have X0 : Stand p l e ({ frames := 0, cells := 0, slots := 0, locals := 0 } : Room) s m #[(.int (9 : Int32))] below meth c s₁ [] 0 0 := Stand.of_body Bd
  have e0 : s₁.heap = h0 := by rw [← hh, Bd.state]; rfl
  have N0 := Fr.nil n0
  show OGets p e below (OLeaves s (Q_pk9 Z A h0 n0 ) ({ frames := 0, cells := 0, slots := 0, locals := 0 } : Room).cells ({ frames := 0, cells := 0, slots := 0, locals := 0 } : Room).slots) _
  refine OGets.enter (ef_pk9 m (9 : Int32)) ?_
  show OGets p e below _ (s₁.setTop (mkF m 0 #[.val (.int (9 : Int32))] []))
  refine OGets.step (fun _ => XS.iloadN X0.here hx rfl (hb hby dm2_0) rfl) ?_
  show OGets p e below _ (s₁.setTop (mkF m 1 #[.val (.int (9 : Int32))] [(.int (9 : Int32))]))
  refine OGets.step (fun _ => XS.ifYes X0.here hx rfl (pc0 := 1) (pc' := 8) rfl (hb hby dm2_1) rfl ((if0 _ _).trans (feq (by decide : ¬ ((9 : Int32) = (0 : Int32)))).2) (by decide) (by decide)) ?_
  show OGets p e below _ (s₁.setTop (mkF m 8 #[.val (.int (9 : Int32))] []))
  refine OGets.step (fun _ => XS.iloadN X0.here hx rfl (hb hby dm2_8) rfl) ?_
  show OGets p e below _ (s₁.setTop (mkF m 9 #[.val (.int (9 : Int32))] [(.int (9 : Int32))]))
  refine OGets.step (fun _ => XS.iconst X0.here hx rfl (hb hby dm2_9)) ?_
  show OGets p e below _ (s₁.setTop (mkF m 10 #[.val (.int (9 : Int32))] [(.int (1 : Int32)), (.int (9 : Int32))]))
  refine OGets.step (fun _ => XS.icmpYes X0.here hx rfl (pc0 := 10) (pc' := 17) rfl (hb hby dm2_10) rfl (feq (by decide : ¬ ((9 : Int32) = (1 : Int32)))).2 (by decide) (by decide)) ?_
  show OGets p e below _ (s₁.setTop (mkF m 17 #[.val (.int (9 : Int32))] []))
  refine OGets.step (fun _ => XS.iloadN X0.here hx rfl (hb hby dm2_17) rfl) ?_
  show OGets p e below _ (s₁.setTop (mkF m 18 #[.val (.int (9 : Int32))] [(.int (9 : Int32))]))
  refine OGets.step (fun _ => XS.iconst X0.here hx rfl (hb hby dm2_18)) ?_
  show OGets p e below _ (s₁.setTop (mkF m 19 #[.val (.int (9 : Int32))] [(.int (2 : Int32)), (.int (9 : Int32))]))
  refine OGets.step (fun _ => XS.icmpYes X0.here hx rfl (pc0 := 19) (pc' := 26) rfl (hb hby dm2_19) rfl (feq (by decide : ¬ ((9 : Int32) = (2 : Int32)))).2 (by decide) (by decide)) ?_
  show OGets p e below _ (s₁.setTop (mkF m 26 #[.val (.int (9 : Int32))] []))
  refine OGets.step (fun _ => XS.iloadN X0.here hx rfl (hb hby dm2_26) rfl) ?_
  show OGets p e below _ (s₁.setTop (mkF m 27 #[.val (.int (9 : Int32))] [(.int (9 : Int32))]))
  refine OGets.step (fun _ => XS.iconst X0.here hx rfl (hb hby dm2_27)) ?_
  show OGets p e below _ (s₁.setTop (mkF m 28 #[.val (.int (9 : Int32))] [(.int (3 : Int32)), (.int (9 : Int32))]))
  refine OGets.step (fun _ => XS.icmpYes X0.here hx rfl (pc0 := 28) (pc' := 35) rfl (hb hby dm2_28) rfl (feq (by decide : ¬ ((9 : Int32) = (3 : Int32)))).2 (by decide) (by decide)) ?_
  show OGets p e below _ (s₁.setTop (mkF m 35 #[.val (.int (9 : Int32))] []))
  refine OGets.step (fun _ => XS.iloadN X0.here hx rfl (hb hby dm2_35) rfl) ?_
  show OGets p e below _ (s₁.setTop (mkF m 36 #[.val (.int (9 : Int32))] [(.int (9 : Int32))]))
  refine OGets.step (fun _ => XS.iconst X0.here hx rfl (hb hby dm2_36)) ?_
  show OGets p e below _ (s₁.setTop (mkF m 37 #[.val (.int (9 : Int32))] [(.int (4 : Int32)), (.int (9 : Int32))]))
  refine OGets.step (fun _ => XS.icmpYes X0.here hx rfl (pc0 := 37) (pc' := 44) rfl (hb hby dm2_37) rfl (feq (by decide : ¬ ((9 : Int32) = (4 : Int32)))).2 (by decide) (by decide)) ?_
  show OGets p e below _ (s₁.setTop (mkF m 44 #[.val (.int (9 : Int32))] []))
  refine OGets.step (fun _ => XS.iloadN X0.here hx rfl (hb hby dm2_44) rfl) ?_
  show OGets p e below _ (s₁.setTop (mkF m 45 #[.val (.int (9 : Int32))] [(.int (9 : Int32))]))
  refine OGets.step (fun _ => XS.iconst X0.here hx rfl (hb hby dm2_45)) ?_
  show OGets p e below _ (s₁.setTop (mkF m 46 #[.val (.int (9 : Int32))] [(.int (5 : Int32)), (.int (9 : Int32))]))
  refine OGets.step (fun _ => XS.icmpYes X0.here hx rfl (pc0 := 46) (pc' := 53) rfl (hb hby dm2_46) rfl (feq (by decide : ¬ ((9 : Int32) = (5 : Int32)))).2 (by decide) (by decide)) ?_
  show OGets p e below _ (s₁.setTop (mkF m 53 #[.val (.int (9 : Int32))] []))
  refine OGets.step (fun _ => XS.iloadN X0.here hx rfl (hb hby dm2_53) rfl) ?_
  show OGets p e below _ (s₁.setTop (mkF m 54 #[.val (.int (9 : Int32))] [(.int (9 : Int32))]))
  refine OGets.step (fun _ => XS.bipush X0.here hx rfl (hb hby dm2_54)) ?_
  show OGets p e below _ (s₁.setTop (mkF m 56 #[.val (.int (9 : Int32))] [(.int (6 : Int32)), (.int (9 : Int32))]))
  refine OGets.step (fun _ => XS.icmpYes X0.here hx rfl (pc0 := 56) (pc' := 63) rfl (hb hby dm2_56) rfl (feq (by decide : ¬ ((9 : Int32) = (6 : Int32)))).2 (by decide) (by decide)) ?_
  show OGets p e below _ (s₁.setTop (mkF m 63 #[.val (.int (9 : Int32))] []))
  refine OGets.step (fun _ => XS.iloadN X0.here hx rfl (hb hby dm2_63) rfl) ?_
  show OGets p e below _ (s₁.setTop (mkF m 64 #[.val (.int (9 : Int32))] [(.int (9 : Int32))]))
  refine OGets.step (fun _ => XS.bipush X0.here hx rfl (hb hby dm2_64)) ?_
  show OGets p e below _ (s₁.setTop (mkF m 66 #[.val (.int (9 : Int32))] [(.int (7 : Int32)), (.int (9 : Int32))]))
  refine OGets.step (fun _ => XS.icmpYes X0.here hx rfl (pc0 := 66) (pc' := 73) rfl (hb hby dm2_66) rfl (feq (by decide : ¬ ((9 : Int32) = (7 : Int32)))).2 (by decide) (by decide)) ?_
  show OGets p e below _ (s₁.setTop (mkF m 73 #[.val (.int (9 : Int32))] []))
  refine OGets.step (fun _ => XS.iloadN X0.here hx rfl (hb hby dm2_73) rfl) ?_
  show OGets p e below _ (s₁.setTop (mkF m 74 #[.val (.int (9 : Int32))] [(.int (9 : Int32))]))
  refine OGets.step (fun _ => XS.bipush X0.here hx rfl (hb hby dm2_74)) ?_
  show OGets p e below _ (s₁.setTop (mkF m 76 #[.val (.int (9 : Int32))] [(.int (8 : Int32)), (.int (9 : Int32))]))
  refine OGets.step (fun _ => XS.icmpYes X0.here hx rfl (pc0 := 76) (pc' := 83) rfl (hb hby dm2_76) rfl (feq (by decide : ¬ ((9 : Int32) = (8 : Int32)))).2 (by decide) (by decide)) ?_
  show OGets p e below _ (s₁.setTop (mkF m 83 #[.val (.int (9 : Int32))] []))
  refine OGets.step (fun _ => XS.iloadN X0.here hx rfl (hb hby dm2_83) rfl) ?_
  show OGets p e below _ (s₁.setTop (mkF m 84 #[.val (.int (9 : Int32))] [(.int (9 : Int32))]))
  refine OGets.step (fun _ => XS.bipush X0.here hx rfl (hb hby dm2_84)) ?_
  show OGets p e below _ (s₁.setTop (mkF m 86 #[.val (.int (9 : Int32))] [(.int (9 : Int32)), (.int (9 : Int32))]))
  refine OGets.step (fun _ => XS.icmpNo X0.here hx rfl (hb hby dm2_86) rfl (teq (by decide : (9 : Int32) = (9 : Int32))).2) ?_
  show OGets p e below _ (s₁.setTop (mkF m 89 #[.val (.int (9 : Int32))] []))
  obtain ⟨T225, X225, e225, st225⟩ := getS2 X0 hx hZ hown (host := "") (Or.inl (hw _ (List.mem_of_getElem? (i := 53) rfl))) Via.refl e0 (show Sta Z h0 "com/example/pelt/pelt/Axis" "PARENT" "Lcom/example/pelt/pelt/Axis;" (.ref (A 9)) from hS 9 (by decide)) (g := (mkF m 89 #[.val (.int (9 : Int32))] [])) rfl (hb hby dm2_89)
  refine OGets.step st225 ?_
  show OGets p e below _ (T225.setTop (mkF m 92 #[.val (.int (9 : Int32))] [(.ref (A 9))]))
  refine OGets.retA X225 hx hlk (t := (.object "com/example/pelt/pelt/Axis")) Bd.returns rfl rfl rfl (hb hby dm2_92) (Nat.le_of_ble_eq_true rfl) (Nat.le_of_ble_eq_true rfl) ?_
  exact ⟨rfl, rfl, e225⟩
theorem ef_lo9 (m : MethodId) (x0 : Addr) : entryFrame m #[(.ref x0)] 1 = mkF m 0 #[.val (.ref x0)] [] := by first | (simp [entryFrame, mkF, argsToLocals, Value.category]; done) | rfl
def Q_lo9 (Z : State) (A : Nat → Addr) (h0 : Heap) (n0 : Nat) (v : Option Value) (h : Heap) (L : List Loc) : Prop := v = some (.int (0 : Int32)) ∧ L = [] ∧ h = h0
set_option maxRecDepth 65536 in
set_option maxHeartbeats 40000000 in
theorem rm_lo9 (l : Launch) (Z : State) (a0 : Array Value) (hw : ∀ d ∈ tables_1, d.before a0 Z = true) (ws : List Jvm.Cond) (A : Nat → Addr) (h0 : Heap) (n0 : Nat) (Z0 : n0 ≤ h0.size) (hS : ∀ i, i < 13 → Sta Z h0 "com/example/pelt/pelt/Axis" (nmOf i) "Lcom/example/pelt/pelt/Axis;" (.ref (A i))) (hI : ∀ i j, i < 13 → j < 13 → A i = A j → i = j) :
    MetFree l (⟨"com/example/pelt/pelt/Axis", "listsOverlap", "()Z"⟩ : MethodName) (head1 (Jvm.Cond.code (⟨"com/example/pelt/pelt/Axis", "listsOverlap", "()Z"⟩ : MethodName) prog_3_method_15_code 1 (some .boolean) :: ws) ({ frames := 0, cells := 0, slots := 0, locals := 0 } : Room)) (fun a_ U => a_ = #[(.ref (A 9))] ∧ Z.Warmed39 U.vm ∧ U.heap = h0) (fun _ _ _ _ _ => True) (fun _ U o U' => ∃ v L, o = .returned v ∧ Q_lo9 Z A h0 n0 v U'.heap L ∧ FrameEnd U o U' L ({ frames := 0, cells := 0, slots := 0, locals := 0 } : Room).cells ({ frames := 0, cells := 0, slots := 0, locals := 0 } : Room).slots) := by
  refine MetFree.of_bodySF (plainFor_of_name pn_1) hisR ?_
  intro p e s m args below meth c s₁ Bd hml0 hP hK
  obtain ⟨rfl, hZ, hh⟩ := hP
  have hx := Bd.exec
  have hby := Bd.bytes
  have hlk : meth.locks = false := Bd.notSynchronized
  have hml : c.maxLocals = 1 := hml0
  have hown : s.vm.findClass "com/example/pelt/pelt/Axis" = some m.cls := findClass_of_methodNamed Bd.named
  have hnm := (name_of_methodNamed Bd.named Bd.method).1
  have X0 : Stand p l e ({ frames := 0, cells := 0, slots := 0, locals := 0 } : Room) s m #[(.ref (A 9))] below meth c s₁ [] 0 0 := Stand.of_body Bd
  have e0 : s₁.heap = h0 := by rw [← hh, Bd.state]; rfl
  have N0 := Fr.nil n0
  show OGets p e below (OLeaves s (Q_lo9 Z A h0 n0 ) ({ frames := 0, cells := 0, slots := 0, locals := 0 } : Room).cells ({ frames := 0, cells := 0, slots := 0, locals := 0 } : Room).slots) _
  refine OGets.enter (ef_lo9 m (A 9)) ?_
  show OGets p e below _ (s₁.setTop (mkF m 0 #[.val (.ref (A 9))] []))
  refine OGets.step (fun _ => XS.aloadN X0.here hx rfl (hb hby d3m15_0) rfl rfl) ?_
  show OGets p e below _ (s₁.setTop (mkF m 1 #[.val (.ref (A 9))] [(.ref (A 9))]))
  obtain ⟨T226, X226, e226, st226⟩ := getS2 X0 hx hZ hown (host := "") (Or.inl (hw _ (List.mem_of_getElem? (i := 13) rfl))) Via.refl e0 (show Sta Z h0 "com/example/pelt/pelt/Axis" "CHILD" "Lcom/example/pelt/pelt/Axis;" (.ref (A 3)) from hS 3 (by decide)) (g := (mkF m 1 #[.val (.ref (A 9))] [(.ref (A 9))])) rfl (hb hby d3m15_1)
  refine OGets.step st226 ?_
  show OGets p e below _ (T226.setTop (mkF m 4 #[.val (.ref (A 9))] [(.ref (A 3)), (.ref (A 9))]))
  refine OGets.step (fun _ => Jvm.RoadKit.acmp (g := (mkF m 4 #[.val (.ref (A 9))] [(.ref (A 3)), (.ref (A 9))])) X226 hx rfl rfl rfl (pc0 := 4) (pc' := 7) (same := false) rfl (hb hby d3m15_4) rfl (decide_eq_false fun q => absurd (hI 9 3 (by decide) (by decide) (Value.ref.inj q)) (by decide)) (by decide) (by decide)) ?_
  show OGets p e below _ (T226.setTop (mkF m 7 #[.val (.ref (A 9))] []))
  refine OGets.step (fun _ => XS.aloadN X226.here hx rfl (hb hby d3m15_7) rfl rfl) ?_
  show OGets p e below _ (T226.setTop (mkF m 8 #[.val (.ref (A 9))] [(.ref (A 9))]))
  obtain ⟨T227, X227, e227, st227⟩ := getS2 X226 hx hZ hown (host := "") (Or.inl (hw _ (List.mem_of_getElem? (i := 15) rfl))) Via.refl e226 (show Sta Z h0 "com/example/pelt/pelt/Axis" "ATTRIBUTE" "Lcom/example/pelt/pelt/Axis;" (.ref (A 2)) from hS 2 (by decide)) (g := (mkF m 8 #[.val (.ref (A 9))] [(.ref (A 9))])) rfl (hb hby d3m15_8)
  refine OGets.step st227 ?_
  show OGets p e below _ (T227.setTop (mkF m 11 #[.val (.ref (A 9))] [(.ref (A 2)), (.ref (A 9))]))
  refine OGets.step (fun _ => Jvm.RoadKit.acmp (g := (mkF m 11 #[.val (.ref (A 9))] [(.ref (A 2)), (.ref (A 9))])) X227 hx rfl rfl rfl (pc0 := 11) (pc' := 14) (same := false) rfl (hb hby d3m15_11) rfl (decide_eq_false fun q => absurd (hI 9 2 (by decide) (by decide) (Value.ref.inj q)) (by decide)) (by decide) (by decide)) ?_
  show OGets p e below _ (T227.setTop (mkF m 14 #[.val (.ref (A 9))] []))
  refine OGets.step (fun _ => XS.aloadN X227.here hx rfl (hb hby d3m15_14) rfl rfl) ?_
  show OGets p e below _ (T227.setTop (mkF m 15 #[.val (.ref (A 9))] [(.ref (A 9))]))
  obtain ⟨T228, X228, e228, st228⟩ := getS2 X227 hx hZ hown (host := "") (Or.inl (hw _ (List.mem_of_getElem? (i := 17) rfl))) Via.refl e227 (show Sta Z h0 "com/example/pelt/pelt/Axis" "NAMESPACE" "Lcom/example/pelt/pelt/Axis;" (.ref (A 8)) from hS 8 (by decide)) (g := (mkF m 15 #[.val (.ref (A 9))] [(.ref (A 9))])) rfl (hb hby d3m15_15)
  refine OGets.step st228 ?_
  show OGets p e below _ (T228.setTop (mkF m 18 #[.val (.ref (A 9))] [(.ref (A 8)), (.ref (A 9))]))
  refine OGets.step (fun _ => Jvm.RoadKit.acmp (g := (mkF m 18 #[.val (.ref (A 9))] [(.ref (A 8)), (.ref (A 9))])) X228 hx rfl rfl rfl (pc0 := 18) (pc' := 21) (same := false) rfl (hb hby d3m15_18) rfl (decide_eq_false fun q => absurd (hI 9 8 (by decide) (by decide) (Value.ref.inj q)) (by decide)) (by decide) (by decide)) ?_
  show OGets p e below _ (T228.setTop (mkF m 21 #[.val (.ref (A 9))] []))
  refine OGets.step (fun _ => XS.aloadN X228.here hx rfl (hb hby d3m15_21) rfl rfl) ?_
  show OGets p e below _ (T228.setTop (mkF m 22 #[.val (.ref (A 9))] [(.ref (A 9))]))
  obtain ⟨T229, X229, e229, st229⟩ := getS2 X228 hx hZ hown (host := "") (Or.inl (hw _ (List.mem_of_getElem? (i := 19) rfl))) Via.refl e228 (show Sta Z h0 "com/example/pelt/pelt/Axis" "PARENT" "Lcom/example/pelt/pelt/Axis;" (.ref (A 9)) from hS 9 (by decide)) (g := (mkF m 22 #[.val (.ref (A 9))] [(.ref (A 9))])) rfl (hb hby d3m15_22)
  refine OGets.step st229 ?_
  show OGets p e below _ (T229.setTop (mkF m 25 #[.val (.ref (A 9))] [(.ref (A 9)), (.ref (A 9))]))
  refine OGets.step (fun _ => Jvm.RoadKit.acmp (g := (mkF m 25 #[.val (.ref (A 9))] [(.ref (A 9)), (.ref (A 9))])) X229 hx rfl rfl rfl (pc0 := 25) (pc' := 39) (same := true) rfl (hb hby d3m15_25) rfl (decide_eq_true rfl) (by decide) (by decide)) ?_
  show OGets p e below _ (T229.setTop (mkF m 39 #[.val (.ref (A 9))] []))
  refine OGets.step (fun _ => XS.iconst X229.here hx rfl (hb hby d3m15_39)) ?_
  show OGets p e below _ (T229.setTop (mkF m 40 #[.val (.ref (A 9))] [(.int (0 : Int32))]))
  refine OGets.retN X229 hx hlk (t := .boolean) Bd.returns (by simp) (hb hby d3m15_40) (Nat.le_of_ble_eq_true rfl) (Nat.le_of_ble_eq_true rfl) ?_
  exact ⟨rfl, rfl, e229⟩
theorem ef_rv9 (m : MethodId) (x0 : Addr) : entryFrame m #[(.ref x0)] 1 = mkF m 0 #[.val (.ref x0)] [] := by first | (simp [entryFrame, mkF, argsToLocals, Value.category]; done) | rfl
def Q_rv9 (Z : State) (A : Nat → Addr) (h0 : Heap) (n0 : Nat) (v : Option Value) (h : Heap) (L : List Loc) : Prop := v = some (.int (0 : Int32)) ∧ L = [] ∧ h = h0
set_option maxRecDepth 65536 in
set_option maxHeartbeats 40000000 in
theorem rm_rv9 (l : Launch) (Z : State) (a0 : Array Value) (hw : ∀ d ∈ tables_1, d.before a0 Z = true) (ws : List Jvm.Cond) (A : Nat → Addr) (h0 : Heap) (n0 : Nat) (Z0 : n0 ≤ h0.size) (hS : ∀ i, i < 13 → Sta Z h0 "com/example/pelt/pelt/Axis" (nmOf i) "Lcom/example/pelt/pelt/Axis;" (.ref (A i))) (hI : ∀ i j, i < 13 → j < 13 → A i = A j → i = j) :
    MetFree l (⟨"com/example/pelt/pelt/Axis", "isReverse", "()Z"⟩ : MethodName) (head1 (Jvm.Cond.code (⟨"com/example/pelt/pelt/Axis", "isReverse", "()Z"⟩ : MethodName) prog_3_method_6_code 1 (some .boolean) :: ws) ({ frames := 0, cells := 0, slots := 0, locals := 0 } : Room)) (fun a_ U => a_ = #[(.ref (A 9))] ∧ Z.Warmed39 U.vm ∧ U.heap = h0) (fun _ _ _ _ _ => True) (fun _ U o U' => ∃ v L, o = .returned v ∧ Q_rv9 Z A h0 n0 v U'.heap L ∧ FrameEnd U o U' L ({ frames := 0, cells := 0, slots := 0, locals := 0 } : Room).cells ({ frames := 0, cells := 0, slots := 0, locals := 0 } : Room).slots) := by
  refine MetFree.of_bodySF (plainFor_of_name pn_1) hisR ?_
  intro p e s m args below meth c s₁ Bd hml0 hP hK
  obtain ⟨rfl, hZ, hh⟩ := hP
  have hx := Bd.exec
  have hby := Bd.bytes
  have hlk : meth.locks = false := Bd.notSynchronized
  have hml : c.maxLocals = 1 := hml0
  have hown : s.vm.findClass "com/example/pelt/pelt/Axis" = some m.cls := findClass_of_methodNamed Bd.named
  have hnm := (name_of_methodNamed Bd.named Bd.method).1
  have X0 : Stand p l e ({ frames := 0, cells := 0, slots := 0, locals := 0 } : Room) s m #[(.ref (A 9))] below meth c s₁ [] 0 0 := Stand.of_body Bd
  have e0 : s₁.heap = h0 := by rw [← hh, Bd.state]; rfl
  have N0 := Fr.nil n0
  show OGets p e below (OLeaves s (Q_rv9 Z A h0 n0 ) ({ frames := 0, cells := 0, slots := 0, locals := 0 } : Room).cells ({ frames := 0, cells := 0, slots := 0, locals := 0 } : Room).slots) _
  refine OGets.enter (ef_rv9 m (A 9)) ?_
  show OGets p e below _ (s₁.setTop (mkF m 0 #[.val (.ref (A 9))] []))
  refine OGets.step (fun _ => XS.aloadN X0.here hx rfl (hb hby d3m6_0) rfl rfl) ?_
  show OGets p e below _ (s₁.setTop (mkF m 1 #[.val (.ref (A 9))] [(.ref (A 9))]))
  obtain ⟨T230, X230, e230, st230⟩ := getS2 X0 hx hZ hown (host := "") (Or.inl (hw _ (List.mem_of_getElem? (i := 28) rfl))) Via.refl e0 (show Sta Z h0 "com/example/pelt/pelt/Axis" "ANCESTOR" "Lcom/example/pelt/pelt/Axis;" (.ref (A 0)) from hS 0 (by decide)) (g := (mkF m 1 #[.val (.ref (A 9))] [(.ref (A 9))])) rfl (hb hby d3m6_1)
  refine OGets.step st230 ?_
  show OGets p e below _ (T230.setTop (mkF m 4 #[.val (.ref (A 9))] [(.ref (A 0)), (.ref (A 9))]))
  refine OGets.step (fun _ => Jvm.RoadKit.acmp (g := (mkF m 4 #[.val (.ref (A 9))] [(.ref (A 0)), (.ref (A 9))])) X230 hx rfl rfl rfl (pc0 := 4) (pc' := 7) (same := false) rfl (hb hby d3m6_4) rfl (decide_eq_false fun q => absurd (hI 9 0 (by decide) (by decide) (Value.ref.inj q)) (by decide)) (by decide) (by decide)) ?_
  show OGets p e below _ (T230.setTop (mkF m 7 #[.val (.ref (A 9))] []))
  refine OGets.step (fun _ => XS.aloadN X230.here hx rfl (hb hby d3m6_7) rfl rfl) ?_
  show OGets p e below _ (T230.setTop (mkF m 8 #[.val (.ref (A 9))] [(.ref (A 9))]))
  obtain ⟨T231, X231, e231, st231⟩ := getS2 X230 hx hZ hown (host := "") (Or.inl (hw _ (List.mem_of_getElem? (i := 35) rfl))) Via.refl e230 (show Sta Z h0 "com/example/pelt/pelt/Axis" "ANCESTOR_OR_SELF" "Lcom/example/pelt/pelt/Axis;" (.ref (A 1)) from hS 1 (by decide)) (g := (mkF m 8 #[.val (.ref (A 9))] [(.ref (A 9))])) rfl (hb hby d3m6_8)
  refine OGets.step st231 ?_
  show OGets p e below _ (T231.setTop (mkF m 11 #[.val (.ref (A 9))] [(.ref (A 1)), (.ref (A 9))]))
  refine OGets.step (fun _ => Jvm.RoadKit.acmp (g := (mkF m 11 #[.val (.ref (A 9))] [(.ref (A 1)), (.ref (A 9))])) X231 hx rfl rfl rfl (pc0 := 11) (pc' := 14) (same := false) rfl (hb hby d3m6_11) rfl (decide_eq_false fun q => absurd (hI 9 1 (by decide) (by decide) (Value.ref.inj q)) (by decide)) (by decide) (by decide)) ?_
  show OGets p e below _ (T231.setTop (mkF m 14 #[.val (.ref (A 9))] []))
  refine OGets.step (fun _ => XS.aloadN X231.here hx rfl (hb hby d3m6_14) rfl rfl) ?_
  show OGets p e below _ (T231.setTop (mkF m 15 #[.val (.ref (A 9))] [(.ref (A 9))]))
  obtain ⟨T232, X232, e232, st232⟩ := getS2 X231 hx hZ hown (host := "") (Or.inl (hw _ (List.mem_of_getElem? (i := 37) rfl))) Via.refl e231 (show Sta Z h0 "com/example/pelt/pelt/Axis" "PRECEDING" "Lcom/example/pelt/pelt/Axis;" (.ref (A 10)) from hS 10 (by decide)) (g := (mkF m 15 #[.val (.ref (A 9))] [(.ref (A 9))])) rfl (hb hby d3m6_15)
  refine OGets.step st232 ?_
  show OGets p e below _ (T232.setTop (mkF m 18 #[.val (.ref (A 9))] [(.ref (A 10)), (.ref (A 9))]))
  refine OGets.step (fun _ => Jvm.RoadKit.acmp (g := (mkF m 18 #[.val (.ref (A 9))] [(.ref (A 10)), (.ref (A 9))])) X232 hx rfl rfl rfl (pc0 := 18) (pc' := 21) (same := false) rfl (hb hby d3m6_18) rfl (decide_eq_false fun q => absurd (hI 9 10 (by decide) (by decide) (Value.ref.inj q)) (by decide)) (by decide) (by decide)) ?_
  show OGets p e below _ (T232.setTop (mkF m 21 #[.val (.ref (A 9))] []))
  refine OGets.step (fun _ => XS.aloadN X232.here hx rfl (hb hby d3m6_21) rfl rfl) ?_
  show OGets p e below _ (T232.setTop (mkF m 22 #[.val (.ref (A 9))] [(.ref (A 9))]))
  obtain ⟨T233, X233, e233, st233⟩ := getS2 X232 hx hZ hown (host := "") (Or.inl (hw _ (List.mem_of_getElem? (i := 39) rfl))) Via.refl e232 (show Sta Z h0 "com/example/pelt/pelt/Axis" "PRECEDING_SIBLING" "Lcom/example/pelt/pelt/Axis;" (.ref (A 11)) from hS 11 (by decide)) (g := (mkF m 22 #[.val (.ref (A 9))] [(.ref (A 9))])) rfl (hb hby d3m6_22)
  refine OGets.step st233 ?_
  show OGets p e below _ (T233.setTop (mkF m 25 #[.val (.ref (A 9))] [(.ref (A 11)), (.ref (A 9))]))
  refine OGets.step (fun _ => Jvm.RoadKit.acmp (g := (mkF m 25 #[.val (.ref (A 9))] [(.ref (A 11)), (.ref (A 9))])) X233 hx rfl rfl rfl (pc0 := 25) (pc' := 32) (same := false) rfl (hb hby d3m6_25) rfl (decide_eq_false fun q => absurd (hI 9 11 (by decide) (by decide) (Value.ref.inj q)) (by decide)) (by decide) (by decide)) ?_
  show OGets p e below _ (T233.setTop (mkF m 32 #[.val (.ref (A 9))] []))
  refine OGets.step (fun _ => XS.iconst X233.here hx rfl (hb hby d3m6_32)) ?_
  show OGets p e below _ (T233.setTop (mkF m 33 #[.val (.ref (A 9))] [(.int (0 : Int32))]))
  refine OGets.retN X233 hx hlk (t := .boolean) Bd.returns (by simp) (hb hby d3m6_33) (Nat.le_of_ble_eq_true rfl) (Nat.le_of_ble_eq_true rfl) ?_
  exact ⟨rfl, rfl, e233⟩
theorem ef_ex9 (m : MethodId) (x0 : Int32) : entryFrame m #[(.int x0)] 5 = mkF m 0 #[.val (.int x0), .unset, .unset, .unset, .unset] [] := by first | (simp [entryFrame, mkF, argsToLocals, Value.category]; done) | rfl
def Q_ex9 (Z : State)  (h0 : Heap) (n0 : Nat) (v : Option Value) (h : Heap) (L : List Loc) : Prop := v = some (.int (0 : Int32)) ∧ L = [] ∧ h = h0
set_option maxRecDepth 65536 in
set_option maxHeartbeats 40000000 in
theorem rm_ex9 (l : Launch) (Z : State) (a0 : Array Value) (hw : ∀ d ∈ tables_1, d.before a0 Z = true) (ws : List Jvm.Cond)  (h0 : Heap) (n0 : Nat) (Z0 : n0 ≤ h0.size) :
    MetFree l (⟨"com/example/pelt/pelt/AxisListsOverlapPinLaw", "expected", "(I)Z"⟩ : MethodName) (head1 (Jvm.Cond.code (⟨"com/example/pelt/pelt/AxisListsOverlapPinLaw", "expected", "(I)Z"⟩ : MethodName) method_3_code 5 (some .boolean) :: ws) ({ frames := 0, cells := 0, slots := 0, locals := 0 } : Room)) (fun a_ U => a_ = #[(.int (9 : Int32))] ∧ Z.Warmed39 U.vm ∧ U.heap = h0) (fun _ _ _ _ _ => True) (fun _ U o U' => ∃ v L, o = .returned v ∧ Q_ex9 Z  h0 n0 v U'.heap L ∧ FrameEnd U o U' L ({ frames := 0, cells := 0, slots := 0, locals := 0 } : Room).cells ({ frames := 0, cells := 0, slots := 0, locals := 0 } : Room).slots) := by
  refine MetFree.of_bodySF (plainFor_of_name pn_0) hisR ?_
  intro p e s m args below meth c s₁ Bd hml0 hP hK
  obtain ⟨rfl, hZ, hh⟩ := hP
  have hx := Bd.exec
  have hby := Bd.bytes
  have hlk : meth.locks = false := Bd.notSynchronized
  have hml : c.maxLocals = 5 := hml0
  have hown : s.vm.findClass "com/example/pelt/pelt/AxisListsOverlapPinLaw" = some m.cls := findClass_of_methodNamed Bd.named
  have hnm := (name_of_methodNamed Bd.named Bd.method).1
  have X0 : Stand p l e ({ frames := 0, cells := 0, slots := 0, locals := 0 } : Room) s m #[(.int (9 : Int32))] below meth c s₁ [] 0 0 := Stand.of_body Bd
  have e0 : s₁.heap = h0 := by rw [← hh, Bd.state]; rfl
  have N0 := Fr.nil n0
  show OGets p e below (OLeaves s (Q_ex9 Z  h0 n0 ) ({ frames := 0, cells := 0, slots := 0, locals := 0 } : Room).cells ({ frames := 0, cells := 0, slots := 0, locals := 0 } : Room).slots) _
  refine OGets.enter (ef_ex9 m (9 : Int32)) ?_
  show OGets p e below _ (s₁.setTop (mkF m 0 #[.val (.int (9 : Int32)), .unset, .unset, .unset, .unset] []))
  refine OGets.step (fun _ => XS.iloadN X0.here hx rfl (hb hby dm3_0) rfl) ?_
  show OGets p e below _ (s₁.setTop (mkF m 1 #[.val (.int (9 : Int32)), .unset, .unset, .unset, .unset] [(.int (9 : Int32))]))
  refine OGets.step (fun _ => XS.ifNo X0.here hx rfl (hb hby dm3_1) rfl ((if0 _ _).trans (feq (by decide : ¬ ((9 : Int32) = (0 : Int32)))).1)) ?_
  show OGets p e below _ (s₁.setTop (mkF m 4 #[.val (.int (9 : Int32)), .unset, .unset, .unset, .unset] []))
  refine OGets.step (fun _ => XS.iloadN X0.here hx rfl (hb hby dm3_4) rfl) ?_
  show OGets p e below _ (s₁.setTop (mkF m 5 #[.val (.int (9 : Int32)), .unset, .unset, .unset, .unset] [(.int (9 : Int32))]))
  refine OGets.step (fun _ => XS.iconst X0.here hx rfl (hb hby dm3_5)) ?_
  show OGets p e below _ (s₁.setTop (mkF m 6 #[.val (.int (9 : Int32)), .unset, .unset, .unset, .unset] [(.int (1 : Int32)), (.int (9 : Int32))]))
  refine OGets.step (fun _ => XS.icmpYes X0.here hx rfl (pc0 := 6) (pc' := 13) rfl (hb hby dm3_6) rfl (feq (by decide : ¬ ((9 : Int32) = (1 : Int32)))).2 (by decide) (by decide)) ?_
  show OGets p e below _ (s₁.setTop (mkF m 13 #[.val (.int (9 : Int32)), .unset, .unset, .unset, .unset] []))
  refine OGets.step (fun _ => XS.iconst X0.here hx rfl (hb hby dm3_13)) ?_
  show OGets p e below _ (s₁.setTop (mkF m 14 #[.val (.int (9 : Int32)), .unset, .unset, .unset, .unset] [(.int (0 : Int32))]))
  refine OGets.step (fun _ => XS.istoreN X0.here hx rfl (hb hby dm3_14) rfl (l' := #[.val (.int (9 : Int32)), .val (.int (0 : Int32)), .unset, .unset, .unset]) rfl) ?_
  show OGets p e below _ (s₁.setTop (mkF m 15 #[.val (.int (9 : Int32)), .val (.int (0 : Int32)), .unset, .unset, .unset] []))
  refine OGets.step (fun _ => XS.iloadN X0.here hx rfl (hb hby dm3_15) rfl) ?_
  show OGets p e below _ (s₁.setTop (mkF m 16 #[.val (.int (9 : Int32)), .val (.int (0 : Int32)), .unset, .unset, .unset] [(.int (9 : Int32))]))
  refine OGets.step (fun _ => XS.iconst X0.here hx rfl (hb hby dm3_16)) ?_
  show OGets p e below _ (s₁.setTop (mkF m 17 #[.val (.int (9 : Int32)), .val (.int (0 : Int32)), .unset, .unset, .unset] [(.int (4 : Int32)), (.int (9 : Int32))]))
  refine OGets.step (fun _ => XS.icmpNo X0.here hx rfl (hb hby dm3_17) rfl (feq (by decide : ¬ ((9 : Int32) = (4 : Int32)))).1) ?_
  show OGets p e below _ (s₁.setTop (mkF m 20 #[.val (.int (9 : Int32)), .val (.int (0 : Int32)), .unset, .unset, .unset] []))
  refine OGets.step (fun _ => XS.iloadN X0.here hx rfl (hb hby dm3_20) rfl) ?_
  show OGets p e below _ (s₁.setTop (mkF m 21 #[.val (.int (9 : Int32)), .val (.int (0 : Int32)), .unset, .unset, .unset] [(.int (9 : Int32))]))
  refine OGets.step (fun _ => XS.iconst X0.here hx rfl (hb hby dm3_21)) ?_
  show OGets p e below _ (s₁.setTop (mkF m 22 #[.val (.int (9 : Int32)), .val (.int (0 : Int32)), .unset, .unset, .unset] [(.int (5 : Int32)), (.int (9 : Int32))]))
  refine OGets.step (fun _ => XS.icmpYes X0.here hx rfl (pc0 := 22) (pc' := 29) rfl (hb hby dm3_22) rfl (feq (by decide : ¬ ((9 : Int32) = (5 : Int32)))).2 (by decide) (by decide)) ?_
  show OGets p e below _ (s₁.setTop (mkF m 29 #[.val (.int (9 : Int32)), .val (.int (0 : Int32)), .unset, .unset, .unset] []))
  refine OGets.step (fun _ => XS.iconst X0.here hx rfl (hb hby dm3_29)) ?_
  show OGets p e below _ (s₁.setTop (mkF m 30 #[.val (.int (9 : Int32)), .val (.int (0 : Int32)), .unset, .unset, .unset] [(.int (0 : Int32))]))
  refine OGets.step (fun _ => XS.istoreN X0.here hx rfl (hb hby dm3_30) rfl (l' := #[.val (.int (9 : Int32)), .val (.int (0 : Int32)), .val (.int (0 : Int32)), .unset, .unset]) rfl) ?_
  show OGets p e below _ (s₁.setTop (mkF m 31 #[.val (.int (9 : Int32)), .val (.int (0 : Int32)), .val (.int (0 : Int32)), .unset, .unset] []))
  refine OGets.step (fun _ => XS.iloadN X0.here hx rfl (hb hby dm3_31) rfl) ?_
  show OGets p e below _ (s₁.setTop (mkF m 32 #[.val (.int (9 : Int32)), .val (.int (0 : Int32)), .val (.int (0 : Int32)), .unset, .unset] [(.int (9 : Int32))]))
  refine OGets.step (fun _ => XS.bipush X0.here hx rfl (hb hby dm3_32)) ?_
  show OGets p e below _ (s₁.setTop (mkF m 34 #[.val (.int (9 : Int32)), .val (.int (0 : Int32)), .val (.int (0 : Int32)), .unset, .unset] [(.int (6 : Int32)), (.int (9 : Int32))]))
  refine OGets.step (fun _ => XS.icmpNo X0.here hx rfl (hb hby dm3_34) rfl (feq (by decide : ¬ ((9 : Int32) = (6 : Int32)))).1) ?_
  show OGets p e below _ (s₁.setTop (mkF m 37 #[.val (.int (9 : Int32)), .val (.int (0 : Int32)), .val (.int (0 : Int32)), .unset, .unset] []))
  refine OGets.step (fun _ => XS.iloadN X0.here hx rfl (hb hby dm3_37) rfl) ?_
  show OGets p e below _ (s₁.setTop (mkF m 38 #[.val (.int (9 : Int32)), .val (.int (0 : Int32)), .val (.int (0 : Int32)), .unset, .unset] [(.int (9 : Int32))]))
  refine OGets.step (fun _ => XS.bipush X0.here hx rfl (hb hby dm3_38)) ?_
  show OGets p e below _ (s₁.setTop (mkF m 40 #[.val (.int (9 : Int32)), .val (.int (0 : Int32)), .val (.int (0 : Int32)), .unset, .unset] [(.int (7 : Int32)), (.int (9 : Int32))]))
  refine OGets.step (fun _ => XS.icmpYes X0.here hx rfl (pc0 := 40) (pc' := 47) rfl (hb hby dm3_40) rfl (feq (by decide : ¬ ((9 : Int32) = (7 : Int32)))).2 (by decide) (by decide)) ?_
  show OGets p e below _ (s₁.setTop (mkF m 47 #[.val (.int (9 : Int32)), .val (.int (0 : Int32)), .val (.int (0 : Int32)), .unset, .unset] []))
  refine OGets.step (fun _ => XS.iconst X0.here hx rfl (hb hby dm3_47)) ?_
  show OGets p e below _ (s₁.setTop (mkF m 48 #[.val (.int (9 : Int32)), .val (.int (0 : Int32)), .val (.int (0 : Int32)), .unset, .unset] [(.int (0 : Int32))]))
  refine OGets.step (fun _ => XS.istoreN X0.here hx rfl (hb hby dm3_48) rfl (l' := #[.val (.int (9 : Int32)), .val (.int (0 : Int32)), .val (.int (0 : Int32)), .val (.int (0 : Int32)), .unset]) rfl) ?_
  show OGets p e below _ (s₁.setTop (mkF m 49 #[.val (.int (9 : Int32)), .val (.int (0 : Int32)), .val (.int (0 : Int32)), .val (.int (0 : Int32)), .unset] []))
  refine OGets.step (fun _ => XS.iloadN X0.here hx rfl (hb hby dm3_49) rfl) ?_
  show OGets p e below _ (s₁.setTop (mkF m 50 #[.val (.int (9 : Int32)), .val (.int (0 : Int32)), .val (.int (0 : Int32)), .val (.int (0 : Int32)), .unset] [(.int (9 : Int32))]))
  refine OGets.step (fun _ => XS.bipush X0.here hx rfl (hb hby dm3_50)) ?_
  show OGets p e below _ (s₁.setTop (mkF m 52 #[.val (.int (9 : Int32)), .val (.int (0 : Int32)), .val (.int (0 : Int32)), .val (.int (0 : Int32)), .unset] [(.int (10 : Int32)), (.int (9 : Int32))]))
  refine OGets.step (fun _ => XS.icmpNo X0.here hx rfl (hb hby dm3_52) rfl (feq (by decide : ¬ ((9 : Int32) = (10 : Int32)))).1) ?_
  show OGets p e below _ (s₁.setTop (mkF m 55 #[.val (.int (9 : Int32)), .val (.int (0 : Int32)), .val (.int (0 : Int32)), .val (.int (0 : Int32)), .unset] []))
  refine OGets.step (fun _ => XS.iloadN X0.here hx rfl (hb hby dm3_55) rfl) ?_
  show OGets p e below _ (s₁.setTop (mkF m 56 #[.val (.int (9 : Int32)), .val (.int (0 : Int32)), .val (.int (0 : Int32)), .val (.int (0 : Int32)), .unset] [(.int (9 : Int32))]))
  refine OGets.step (fun _ => XS.bipush X0.here hx rfl (hb hby dm3_56)) ?_
  show OGets p e below _ (s₁.setTop (mkF m 58 #[.val (.int (9 : Int32)), .val (.int (0 : Int32)), .val (.int (0 : Int32)), .val (.int (0 : Int32)), .unset] [(.int (11 : Int32)), (.int (9 : Int32))]))
  refine OGets.step (fun _ => XS.icmpYes X0.here hx rfl (pc0 := 58) (pc' := 65) rfl (hb hby dm3_58) rfl (feq (by decide : ¬ ((9 : Int32) = (11 : Int32)))).2 (by decide) (by decide)) ?_
  show OGets p e below _ (s₁.setTop (mkF m 65 #[.val (.int (9 : Int32)), .val (.int (0 : Int32)), .val (.int (0 : Int32)), .val (.int (0 : Int32)), .unset] []))
  refine OGets.step (fun _ => XS.iconst X0.here hx rfl (hb hby dm3_65)) ?_
  show OGets p e below _ (s₁.setTop (mkF m 66 #[.val (.int (9 : Int32)), .val (.int (0 : Int32)), .val (.int (0 : Int32)), .val (.int (0 : Int32)), .unset] [(.int (0 : Int32))]))
  refine OGets.step (fun _ => XS.istore X0.here hx rfl (hb hby dm3_66) rfl (l' := #[.val (.int (9 : Int32)), .val (.int (0 : Int32)), .val (.int (0 : Int32)), .val (.int (0 : Int32)), .val (.int (0 : Int32))]) rfl) ?_
  show OGets p e below _ (s₁.setTop (mkF m 68 #[.val (.int (9 : Int32)), .val (.int (0 : Int32)), .val (.int (0 : Int32)), .val (.int (0 : Int32)), .val (.int (0 : Int32))] []))
  refine OGets.step (fun _ => XS.iloadN X0.here hx rfl (hb hby dm3_68) rfl) ?_
  show OGets p e below _ (s₁.setTop (mkF m 69 #[.val (.int (9 : Int32)), .val (.int (0 : Int32)), .val (.int (0 : Int32)), .val (.int (0 : Int32)), .val (.int (0 : Int32))] [(.int (0 : Int32))]))
  refine OGets.step (fun _ => XS.ifNo X0.here hx rfl (hb hby dm3_69) rfl ((if0 _ _).trans (teq (by decide : (0 : Int32) = (0 : Int32))).2)) ?_
  show OGets p e below _ (s₁.setTop (mkF m 72 #[.val (.int (9 : Int32)), .val (.int (0 : Int32)), .val (.int (0 : Int32)), .val (.int (0 : Int32)), .val (.int (0 : Int32))] []))
  refine OGets.step (fun _ => XS.iloadN X0.here hx rfl (hb hby dm3_72) rfl) ?_
  show OGets p e below _ (s₁.setTop (mkF m 73 #[.val (.int (9 : Int32)), .val (.int (0 : Int32)), .val (.int (0 : Int32)), .val (.int (0 : Int32)), .val (.int (0 : Int32))] [(.int (0 : Int32))]))
  refine OGets.step (fun _ => XS.ifNo X0.here hx rfl (hb hby dm3_73) rfl ((if0 _ _).trans (teq (by decide : (0 : Int32) = (0 : Int32))).2)) ?_
  show OGets p e below _ (s₁.setTop (mkF m 76 #[.val (.int (9 : Int32)), .val (.int (0 : Int32)), .val (.int (0 : Int32)), .val (.int (0 : Int32)), .val (.int (0 : Int32))] []))
  refine OGets.step (fun _ => XS.iloadN X0.here hx rfl (hb hby dm3_76) rfl) ?_
  show OGets p e below _ (s₁.setTop (mkF m 77 #[.val (.int (9 : Int32)), .val (.int (0 : Int32)), .val (.int (0 : Int32)), .val (.int (0 : Int32)), .val (.int (0 : Int32))] [(.int (0 : Int32))]))
  refine OGets.step (fun _ => XS.ifNo X0.here hx rfl (hb hby dm3_77) rfl ((if0 _ _).trans (teq (by decide : (0 : Int32) = (0 : Int32))).2)) ?_
  show OGets p e below _ (s₁.setTop (mkF m 80 #[.val (.int (9 : Int32)), .val (.int (0 : Int32)), .val (.int (0 : Int32)), .val (.int (0 : Int32)), .val (.int (0 : Int32))] []))
  refine OGets.step (fun _ => XS.iload X0.here hx rfl (hb hby dm3_80) rfl) ?_
  show OGets p e below _ (s₁.setTop (mkF m 82 #[.val (.int (9 : Int32)), .val (.int (0 : Int32)), .val (.int (0 : Int32)), .val (.int (0 : Int32)), .val (.int (0 : Int32))] [(.int (0 : Int32))]))
  refine OGets.step (fun _ => XS.ifYes X0.here hx rfl (pc0 := 82) (pc' := 89) rfl (hb hby dm3_82) rfl ((if0 _ _).trans (teq (by decide : (0 : Int32) = (0 : Int32))).1) (by decide) (by decide)) ?_
  show OGets p e below _ (s₁.setTop (mkF m 89 #[.val (.int (9 : Int32)), .val (.int (0 : Int32)), .val (.int (0 : Int32)), .val (.int (0 : Int32)), .val (.int (0 : Int32))] []))
  refine OGets.step (fun _ => XS.iconst X0.here hx rfl (hb hby dm3_89)) ?_
  show OGets p e below _ (s₁.setTop (mkF m 90 #[.val (.int (9 : Int32)), .val (.int (0 : Int32)), .val (.int (0 : Int32)), .val (.int (0 : Int32)), .val (.int (0 : Int32))] [(.int (0 : Int32))]))
  refine OGets.retN X0 hx hlk (t := .boolean) Bd.returns (by simp) (hb hby dm3_90) (Nat.le_of_ble_eq_true rfl) (Nat.le_of_ble_eq_true rfl) ?_
  exact ⟨rfl, rfl, e0⟩
theorem dm2_93 : decode method_2_code 93 = .ok (.iload_n 0, 1) := by decide +kernel
theorem dm2_94 : decode method_2_code 94 = .ok (.bipush 10, 2) := by decide +kernel
theorem dm2_96 : decode method_2_code 96 = .ok (.if_icmp .ne 7, 3) := by decide +kernel
theorem dm2_99 : decode method_2_code 99 = .ok (.getstatic 40, 3) := by decide +kernel
theorem dm2_102 : decode method_2_code 102 = .ok (.areturn, 1) := by decide +kernel
theorem ef_pk10 (m : MethodId) (x0 : Int32) : entryFrame m #[(.int x0)] 1 = mkF m 0 #[.val (.int x0)] [] := by first | (simp [entryFrame, mkF, argsToLocals, Value.category]; done) | rfl
def Q_pk10 (Z : State) (A : Nat → Addr) (h0 : Heap) (n0 : Nat) (v : Option Value) (h : Heap) (L : List Loc) : Prop := v = some (.ref (A 10)) ∧ L = [] ∧ h = h0
set_option maxRecDepth 65536 in
set_option maxHeartbeats 40000000 in
theorem rm_pk10 (l : Launch) (Z : State) (a0 : Array Value) (hw : ∀ d ∈ tables_1, d.before a0 Z = true) (ws : List Jvm.Cond) (A : Nat → Addr) (h0 : Heap) (n0 : Nat) (Z0 : n0 ≤ h0.size) (hS : ∀ i, i < 13 → Sta Z h0 "com/example/pelt/pelt/Axis" (nmOf i) "Lcom/example/pelt/pelt/Axis;" (.ref (A i))) (hI : ∀ i j, i < 13 → j < 13 → A i = A j → i = j) :
    MetFree l (⟨"com/example/pelt/pelt/AxisListsOverlapPinLaw", "pick", "(I)Lcom/example/pelt/pelt/Axis;"⟩ : MethodName) (head1 (Jvm.Cond.code (⟨"com/example/pelt/pelt/AxisListsOverlapPinLaw", "pick", "(I)Lcom/example/pelt/pelt/Axis;"⟩ : MethodName) method_2_code 1 (some (.object "com/example/pelt/pelt/Axis")) :: ws) ({ frames := 0, cells := 0, slots := 0, locals := 0 } : Room)) (fun a_ U => a_ = #[(.int (10 : Int32))] ∧ Z.Warmed39 U.vm ∧ U.heap = h0) (fun _ _ _ _ _ => True) (fun _ U o U' => ∃ v L, o = .returned v ∧ Q_pk10 Z A h0 n0 v U'.heap L ∧ FrameEnd U o U' L ({ frames := 0, cells := 0, slots := 0, locals := 0 } : Room).cells ({ frames := 0, cells := 0, slots := 0, locals := 0 } : Room).slots) := by
  refine MetFree.of_bodySF (plainFor_of_name pn_0) hisR ?_
  intro p e s m args below meth c s₁ Bd hml0 hP hK
  obtain ⟨rfl, hZ, hh⟩ := hP
  have hx := Bd.exec
  have hby := Bd.bytes
  have hlk : meth.locks = false := Bd.notSynchronized
  have hml : c.maxLocals = 1 := hml0
  have hown : s.vm.findClass "com/example/pelt/pelt/AxisListsOverlapPinLaw" = some m.cls := findClass_of_methodNamed Bd.named
  have hnm := (name_of_methodNamed Bd.named Bd.method).1
  have X0 : Stand p l e ({ frames := 0, cells := 0, slots := 0, locals := 0 } : Room) s m #[(.int (10 : Int32))] below meth c s₁ [] 0 0 := Stand.of_body Bd
  have e0 : s₁.heap = h0 := by rw [← hh, Bd.state]; rfl
  have N0 := Fr.nil n0
  show OGets p e below (OLeaves s (Q_pk10 Z A h0 n0 ) ({ frames := 0, cells := 0, slots := 0, locals := 0 } : Room).cells ({ frames := 0, cells := 0, slots := 0, locals := 0 } : Room).slots) _
  refine OGets.enter (ef_pk10 m (10 : Int32)) ?_
  show OGets p e below _ (s₁.setTop (mkF m 0 #[.val (.int (10 : Int32))] []))
  refine OGets.step (fun _ => XS.iloadN X0.here hx rfl (hb hby dm2_0) rfl) ?_
  show OGets p e below _ (s₁.setTop (mkF m 1 #[.val (.int (10 : Int32))] [(.int (10 : Int32))]))
  refine OGets.step (fun _ => XS.ifYes X0.here hx rfl (pc0 := 1) (pc' := 8) rfl (hb hby dm2_1) rfl ((if0 _ _).trans (feq (by decide : ¬ ((10 : Int32) = (0 : Int32)))).2) (by decide) (by decide)) ?_
  show OGets p e below _ (s₁.setTop (mkF m 8 #[.val (.int (10 : Int32))] []))
  refine OGets.step (fun _ => XS.iloadN X0.here hx rfl (hb hby dm2_8) rfl) ?_
  show OGets p e below _ (s₁.setTop (mkF m 9 #[.val (.int (10 : Int32))] [(.int (10 : Int32))]))
  refine OGets.step (fun _ => XS.iconst X0.here hx rfl (hb hby dm2_9)) ?_
  show OGets p e below _ (s₁.setTop (mkF m 10 #[.val (.int (10 : Int32))] [(.int (1 : Int32)), (.int (10 : Int32))]))
  refine OGets.step (fun _ => XS.icmpYes X0.here hx rfl (pc0 := 10) (pc' := 17) rfl (hb hby dm2_10) rfl (feq (by decide : ¬ ((10 : Int32) = (1 : Int32)))).2 (by decide) (by decide)) ?_
  show OGets p e below _ (s₁.setTop (mkF m 17 #[.val (.int (10 : Int32))] []))
  refine OGets.step (fun _ => XS.iloadN X0.here hx rfl (hb hby dm2_17) rfl) ?_
  show OGets p e below _ (s₁.setTop (mkF m 18 #[.val (.int (10 : Int32))] [(.int (10 : Int32))]))
  refine OGets.step (fun _ => XS.iconst X0.here hx rfl (hb hby dm2_18)) ?_
  show OGets p e below _ (s₁.setTop (mkF m 19 #[.val (.int (10 : Int32))] [(.int (2 : Int32)), (.int (10 : Int32))]))
  refine OGets.step (fun _ => XS.icmpYes X0.here hx rfl (pc0 := 19) (pc' := 26) rfl (hb hby dm2_19) rfl (feq (by decide : ¬ ((10 : Int32) = (2 : Int32)))).2 (by decide) (by decide)) ?_
  show OGets p e below _ (s₁.setTop (mkF m 26 #[.val (.int (10 : Int32))] []))
  refine OGets.step (fun _ => XS.iloadN X0.here hx rfl (hb hby dm2_26) rfl) ?_
  show OGets p e below _ (s₁.setTop (mkF m 27 #[.val (.int (10 : Int32))] [(.int (10 : Int32))]))
  refine OGets.step (fun _ => XS.iconst X0.here hx rfl (hb hby dm2_27)) ?_
  show OGets p e below _ (s₁.setTop (mkF m 28 #[.val (.int (10 : Int32))] [(.int (3 : Int32)), (.int (10 : Int32))]))
  refine OGets.step (fun _ => XS.icmpYes X0.here hx rfl (pc0 := 28) (pc' := 35) rfl (hb hby dm2_28) rfl (feq (by decide : ¬ ((10 : Int32) = (3 : Int32)))).2 (by decide) (by decide)) ?_
  show OGets p e below _ (s₁.setTop (mkF m 35 #[.val (.int (10 : Int32))] []))
  refine OGets.step (fun _ => XS.iloadN X0.here hx rfl (hb hby dm2_35) rfl) ?_
  show OGets p e below _ (s₁.setTop (mkF m 36 #[.val (.int (10 : Int32))] [(.int (10 : Int32))]))
  refine OGets.step (fun _ => XS.iconst X0.here hx rfl (hb hby dm2_36)) ?_
  show OGets p e below _ (s₁.setTop (mkF m 37 #[.val (.int (10 : Int32))] [(.int (4 : Int32)), (.int (10 : Int32))]))
  refine OGets.step (fun _ => XS.icmpYes X0.here hx rfl (pc0 := 37) (pc' := 44) rfl (hb hby dm2_37) rfl (feq (by decide : ¬ ((10 : Int32) = (4 : Int32)))).2 (by decide) (by decide)) ?_
  show OGets p e below _ (s₁.setTop (mkF m 44 #[.val (.int (10 : Int32))] []))
  refine OGets.step (fun _ => XS.iloadN X0.here hx rfl (hb hby dm2_44) rfl) ?_
  show OGets p e below _ (s₁.setTop (mkF m 45 #[.val (.int (10 : Int32))] [(.int (10 : Int32))]))
  refine OGets.step (fun _ => XS.iconst X0.here hx rfl (hb hby dm2_45)) ?_
  show OGets p e below _ (s₁.setTop (mkF m 46 #[.val (.int (10 : Int32))] [(.int (5 : Int32)), (.int (10 : Int32))]))
  refine OGets.step (fun _ => XS.icmpYes X0.here hx rfl (pc0 := 46) (pc' := 53) rfl (hb hby dm2_46) rfl (feq (by decide : ¬ ((10 : Int32) = (5 : Int32)))).2 (by decide) (by decide)) ?_
  show OGets p e below _ (s₁.setTop (mkF m 53 #[.val (.int (10 : Int32))] []))
  refine OGets.step (fun _ => XS.iloadN X0.here hx rfl (hb hby dm2_53) rfl) ?_
  show OGets p e below _ (s₁.setTop (mkF m 54 #[.val (.int (10 : Int32))] [(.int (10 : Int32))]))
  refine OGets.step (fun _ => XS.bipush X0.here hx rfl (hb hby dm2_54)) ?_
  show OGets p e below _ (s₁.setTop (mkF m 56 #[.val (.int (10 : Int32))] [(.int (6 : Int32)), (.int (10 : Int32))]))
  refine OGets.step (fun _ => XS.icmpYes X0.here hx rfl (pc0 := 56) (pc' := 63) rfl (hb hby dm2_56) rfl (feq (by decide : ¬ ((10 : Int32) = (6 : Int32)))).2 (by decide) (by decide)) ?_
  show OGets p e below _ (s₁.setTop (mkF m 63 #[.val (.int (10 : Int32))] []))
  refine OGets.step (fun _ => XS.iloadN X0.here hx rfl (hb hby dm2_63) rfl) ?_
  show OGets p e below _ (s₁.setTop (mkF m 64 #[.val (.int (10 : Int32))] [(.int (10 : Int32))]))
  refine OGets.step (fun _ => XS.bipush X0.here hx rfl (hb hby dm2_64)) ?_
  show OGets p e below _ (s₁.setTop (mkF m 66 #[.val (.int (10 : Int32))] [(.int (7 : Int32)), (.int (10 : Int32))]))
  refine OGets.step (fun _ => XS.icmpYes X0.here hx rfl (pc0 := 66) (pc' := 73) rfl (hb hby dm2_66) rfl (feq (by decide : ¬ ((10 : Int32) = (7 : Int32)))).2 (by decide) (by decide)) ?_
  show OGets p e below _ (s₁.setTop (mkF m 73 #[.val (.int (10 : Int32))] []))
  refine OGets.step (fun _ => XS.iloadN X0.here hx rfl (hb hby dm2_73) rfl) ?_
  show OGets p e below _ (s₁.setTop (mkF m 74 #[.val (.int (10 : Int32))] [(.int (10 : Int32))]))
  refine OGets.step (fun _ => XS.bipush X0.here hx rfl (hb hby dm2_74)) ?_
  show OGets p e below _ (s₁.setTop (mkF m 76 #[.val (.int (10 : Int32))] [(.int (8 : Int32)), (.int (10 : Int32))]))
  refine OGets.step (fun _ => XS.icmpYes X0.here hx rfl (pc0 := 76) (pc' := 83) rfl (hb hby dm2_76) rfl (feq (by decide : ¬ ((10 : Int32) = (8 : Int32)))).2 (by decide) (by decide)) ?_
  show OGets p e below _ (s₁.setTop (mkF m 83 #[.val (.int (10 : Int32))] []))
  refine OGets.step (fun _ => XS.iloadN X0.here hx rfl (hb hby dm2_83) rfl) ?_
  show OGets p e below _ (s₁.setTop (mkF m 84 #[.val (.int (10 : Int32))] [(.int (10 : Int32))]))
  refine OGets.step (fun _ => XS.bipush X0.here hx rfl (hb hby dm2_84)) ?_
  show OGets p e below _ (s₁.setTop (mkF m 86 #[.val (.int (10 : Int32))] [(.int (9 : Int32)), (.int (10 : Int32))]))
  refine OGets.step (fun _ => XS.icmpYes X0.here hx rfl (pc0 := 86) (pc' := 93) rfl (hb hby dm2_86) rfl (feq (by decide : ¬ ((10 : Int32) = (9 : Int32)))).2 (by decide) (by decide)) ?_
  show OGets p e below _ (s₁.setTop (mkF m 93 #[.val (.int (10 : Int32))] []))
  refine OGets.step (fun _ => XS.iloadN X0.here hx rfl (hb hby dm2_93) rfl) ?_
  show OGets p e below _ (s₁.setTop (mkF m 94 #[.val (.int (10 : Int32))] [(.int (10 : Int32))]))
  refine OGets.step (fun _ => XS.bipush X0.here hx rfl (hb hby dm2_94)) ?_
  show OGets p e below _ (s₁.setTop (mkF m 96 #[.val (.int (10 : Int32))] [(.int (10 : Int32)), (.int (10 : Int32))]))
  refine OGets.step (fun _ => XS.icmpNo X0.here hx rfl (hb hby dm2_96) rfl (teq (by decide : (10 : Int32) = (10 : Int32))).2) ?_
  show OGets p e below _ (s₁.setTop (mkF m 99 #[.val (.int (10 : Int32))] []))
  obtain ⟨T257, X257, e257, st257⟩ := getS2 X0 hx hZ hown (host := "") (Or.inl (hw _ (List.mem_of_getElem? (i := 68) rfl))) Via.refl e0 (show Sta Z h0 "com/example/pelt/pelt/Axis" "PRECEDING" "Lcom/example/pelt/pelt/Axis;" (.ref (A 10)) from hS 10 (by decide)) (g := (mkF m 99 #[.val (.int (10 : Int32))] [])) rfl (hb hby dm2_99)
  refine OGets.step st257 ?_
  show OGets p e below _ (T257.setTop (mkF m 102 #[.val (.int (10 : Int32))] [(.ref (A 10))]))
  refine OGets.retA X257 hx hlk (t := (.object "com/example/pelt/pelt/Axis")) Bd.returns rfl rfl rfl (hb hby dm2_102) (Nat.le_of_ble_eq_true rfl) (Nat.le_of_ble_eq_true rfl) ?_
  exact ⟨rfl, rfl, e257⟩
theorem ef_lo10 (m : MethodId) (x0 : Addr) : entryFrame m #[(.ref x0)] 1 = mkF m 0 #[.val (.ref x0)] [] := by first | (simp [entryFrame, mkF, argsToLocals, Value.category]; done) | rfl
def Q_lo10 (Z : State) (A : Nat → Addr) (h0 : Heap) (n0 : Nat) (v : Option Value) (h : Heap) (L : List Loc) : Prop := v = some (.int (1 : Int32)) ∧ L = [] ∧ h = h0
set_option maxRecDepth 65536 in
set_option maxHeartbeats 40000000 in
theorem rm_lo10 (l : Launch) (Z : State) (a0 : Array Value) (hw : ∀ d ∈ tables_1, d.before a0 Z = true) (ws : List Jvm.Cond) (A : Nat → Addr) (h0 : Heap) (n0 : Nat) (Z0 : n0 ≤ h0.size) (hS : ∀ i, i < 13 → Sta Z h0 "com/example/pelt/pelt/Axis" (nmOf i) "Lcom/example/pelt/pelt/Axis;" (.ref (A i))) (hI : ∀ i j, i < 13 → j < 13 → A i = A j → i = j) :
    MetFree l (⟨"com/example/pelt/pelt/Axis", "listsOverlap", "()Z"⟩ : MethodName) (head1 (Jvm.Cond.code (⟨"com/example/pelt/pelt/Axis", "listsOverlap", "()Z"⟩ : MethodName) prog_3_method_15_code 1 (some .boolean) :: ws) ({ frames := 0, cells := 0, slots := 0, locals := 0 } : Room)) (fun a_ U => a_ = #[(.ref (A 10))] ∧ Z.Warmed39 U.vm ∧ U.heap = h0) (fun _ _ _ _ _ => True) (fun _ U o U' => ∃ v L, o = .returned v ∧ Q_lo10 Z A h0 n0 v U'.heap L ∧ FrameEnd U o U' L ({ frames := 0, cells := 0, slots := 0, locals := 0 } : Room).cells ({ frames := 0, cells := 0, slots := 0, locals := 0 } : Room).slots) := by
  refine MetFree.of_bodySF (plainFor_of_name pn_1) hisR ?_
  intro p e s m args below meth c s₁ Bd hml0 hP hK
  obtain ⟨rfl, hZ, hh⟩ := hP
  have hx := Bd.exec
  have hby := Bd.bytes
  have hlk : meth.locks = false := Bd.notSynchronized
  have hml : c.maxLocals = 1 := hml0
  have hown : s.vm.findClass "com/example/pelt/pelt/Axis" = some m.cls := findClass_of_methodNamed Bd.named
  have hnm := (name_of_methodNamed Bd.named Bd.method).1
  have X0 : Stand p l e ({ frames := 0, cells := 0, slots := 0, locals := 0 } : Room) s m #[(.ref (A 10))] below meth c s₁ [] 0 0 := Stand.of_body Bd
  have e0 : s₁.heap = h0 := by rw [← hh, Bd.state]; rfl
  have N0 := Fr.nil n0
  show OGets p e below (OLeaves s (Q_lo10 Z A h0 n0 ) ({ frames := 0, cells := 0, slots := 0, locals := 0 } : Room).cells ({ frames := 0, cells := 0, slots := 0, locals := 0 } : Room).slots) _
  refine OGets.enter (ef_lo10 m (A 10)) ?_
  show OGets p e below _ (s₁.setTop (mkF m 0 #[.val (.ref (A 10))] []))
  refine OGets.step (fun _ => XS.aloadN X0.here hx rfl (hb hby d3m15_0) rfl rfl) ?_
  show OGets p e below _ (s₁.setTop (mkF m 1 #[.val (.ref (A 10))] [(.ref (A 10))]))
  obtain ⟨T258, X258, e258, st258⟩ := getS2 X0 hx hZ hown (host := "") (Or.inl (hw _ (List.mem_of_getElem? (i := 13) rfl))) Via.refl e0 (show Sta Z h0 "com/example/pelt/pelt/Axis" "CHILD" "Lcom/example/pelt/pelt/Axis;" (.ref (A 3)) from hS 3 (by decide)) (g := (mkF m 1 #[.val (.ref (A 10))] [(.ref (A 10))])) rfl (hb hby d3m15_1)
  refine OGets.step st258 ?_
  show OGets p e below _ (T258.setTop (mkF m 4 #[.val (.ref (A 10))] [(.ref (A 3)), (.ref (A 10))]))
  refine OGets.step (fun _ => Jvm.RoadKit.acmp (g := (mkF m 4 #[.val (.ref (A 10))] [(.ref (A 3)), (.ref (A 10))])) X258 hx rfl rfl rfl (pc0 := 4) (pc' := 7) (same := false) rfl (hb hby d3m15_4) rfl (decide_eq_false fun q => absurd (hI 10 3 (by decide) (by decide) (Value.ref.inj q)) (by decide)) (by decide) (by decide)) ?_
  show OGets p e below _ (T258.setTop (mkF m 7 #[.val (.ref (A 10))] []))
  refine OGets.step (fun _ => XS.aloadN X258.here hx rfl (hb hby d3m15_7) rfl rfl) ?_
  show OGets p e below _ (T258.setTop (mkF m 8 #[.val (.ref (A 10))] [(.ref (A 10))]))
  obtain ⟨T259, X259, e259, st259⟩ := getS2 X258 hx hZ hown (host := "") (Or.inl (hw _ (List.mem_of_getElem? (i := 15) rfl))) Via.refl e258 (show Sta Z h0 "com/example/pelt/pelt/Axis" "ATTRIBUTE" "Lcom/example/pelt/pelt/Axis;" (.ref (A 2)) from hS 2 (by decide)) (g := (mkF m 8 #[.val (.ref (A 10))] [(.ref (A 10))])) rfl (hb hby d3m15_8)
  refine OGets.step st259 ?_
  show OGets p e below _ (T259.setTop (mkF m 11 #[.val (.ref (A 10))] [(.ref (A 2)), (.ref (A 10))]))
  refine OGets.step (fun _ => Jvm.RoadKit.acmp (g := (mkF m 11 #[.val (.ref (A 10))] [(.ref (A 2)), (.ref (A 10))])) X259 hx rfl rfl rfl (pc0 := 11) (pc' := 14) (same := false) rfl (hb hby d3m15_11) rfl (decide_eq_false fun q => absurd (hI 10 2 (by decide) (by decide) (Value.ref.inj q)) (by decide)) (by decide) (by decide)) ?_
  show OGets p e below _ (T259.setTop (mkF m 14 #[.val (.ref (A 10))] []))
  refine OGets.step (fun _ => XS.aloadN X259.here hx rfl (hb hby d3m15_14) rfl rfl) ?_
  show OGets p e below _ (T259.setTop (mkF m 15 #[.val (.ref (A 10))] [(.ref (A 10))]))
  obtain ⟨T260, X260, e260, st260⟩ := getS2 X259 hx hZ hown (host := "") (Or.inl (hw _ (List.mem_of_getElem? (i := 17) rfl))) Via.refl e259 (show Sta Z h0 "com/example/pelt/pelt/Axis" "NAMESPACE" "Lcom/example/pelt/pelt/Axis;" (.ref (A 8)) from hS 8 (by decide)) (g := (mkF m 15 #[.val (.ref (A 10))] [(.ref (A 10))])) rfl (hb hby d3m15_15)
  refine OGets.step st260 ?_
  show OGets p e below _ (T260.setTop (mkF m 18 #[.val (.ref (A 10))] [(.ref (A 8)), (.ref (A 10))]))
  refine OGets.step (fun _ => Jvm.RoadKit.acmp (g := (mkF m 18 #[.val (.ref (A 10))] [(.ref (A 8)), (.ref (A 10))])) X260 hx rfl rfl rfl (pc0 := 18) (pc' := 21) (same := false) rfl (hb hby d3m15_18) rfl (decide_eq_false fun q => absurd (hI 10 8 (by decide) (by decide) (Value.ref.inj q)) (by decide)) (by decide) (by decide)) ?_
  show OGets p e below _ (T260.setTop (mkF m 21 #[.val (.ref (A 10))] []))
  refine OGets.step (fun _ => XS.aloadN X260.here hx rfl (hb hby d3m15_21) rfl rfl) ?_
  show OGets p e below _ (T260.setTop (mkF m 22 #[.val (.ref (A 10))] [(.ref (A 10))]))
  obtain ⟨T261, X261, e261, st261⟩ := getS2 X260 hx hZ hown (host := "") (Or.inl (hw _ (List.mem_of_getElem? (i := 19) rfl))) Via.refl e260 (show Sta Z h0 "com/example/pelt/pelt/Axis" "PARENT" "Lcom/example/pelt/pelt/Axis;" (.ref (A 9)) from hS 9 (by decide)) (g := (mkF m 22 #[.val (.ref (A 10))] [(.ref (A 10))])) rfl (hb hby d3m15_22)
  refine OGets.step st261 ?_
  show OGets p e below _ (T261.setTop (mkF m 25 #[.val (.ref (A 10))] [(.ref (A 9)), (.ref (A 10))]))
  refine OGets.step (fun _ => Jvm.RoadKit.acmp (g := (mkF m 25 #[.val (.ref (A 10))] [(.ref (A 9)), (.ref (A 10))])) X261 hx rfl rfl rfl (pc0 := 25) (pc' := 28) (same := false) rfl (hb hby d3m15_25) rfl (decide_eq_false fun q => absurd (hI 10 9 (by decide) (by decide) (Value.ref.inj q)) (by decide)) (by decide) (by decide)) ?_
  show OGets p e below _ (T261.setTop (mkF m 28 #[.val (.ref (A 10))] []))
  refine OGets.step (fun _ => XS.aloadN X261.here hx rfl (hb hby d3m15_28) rfl rfl) ?_
  show OGets p e below _ (T261.setTop (mkF m 29 #[.val (.ref (A 10))] [(.ref (A 10))]))
  obtain ⟨T262, X262, e262, st262⟩ := getS2 X261 hx hZ hown (host := "") (Or.inl (hw _ (List.mem_of_getElem? (i := 21) rfl))) Via.refl e261 (show Sta Z h0 "com/example/pelt/pelt/Axis" "SELF" "Lcom/example/pelt/pelt/Axis;" (.ref (A 12)) from hS 12 (by decide)) (g := (mkF m 29 #[.val (.ref (A 10))] [(.ref (A 10))])) rfl (hb hby d3m15_29)
  refine OGets.step st262 ?_
  show OGets p e below _ (T262.setTop (mkF m 32 #[.val (.ref (A 10))] [(.ref (A 12)), (.ref (A 10))]))
  refine OGets.step (fun _ => Jvm.RoadKit.acmp (g := (mkF m 32 #[.val (.ref (A 10))] [(.ref (A 12)), (.ref (A 10))])) X262 hx rfl rfl rfl (pc0 := 32) (pc' := 35) (same := false) rfl (hb hby d3m15_32) rfl (decide_eq_false fun q => absurd (hI 10 12 (by decide) (by decide) (Value.ref.inj q)) (by decide)) (by decide) (by decide)) ?_
  show OGets p e below _ (T262.setTop (mkF m 35 #[.val (.ref (A 10))] []))
  refine OGets.step (fun _ => XS.iconst X262.here hx rfl (hb hby d3m15_35)) ?_
  show OGets p e below _ (T262.setTop (mkF m 36 #[.val (.ref (A 10))] [(.int (1 : Int32))]))
  refine OGets.step (fun _ => XS.goto X262.here hx rfl (pc0 := 36) (pc' := 40) rfl (hb hby d3m15_36) (by decide) (by decide)) ?_
  show OGets p e below _ (T262.setTop (mkF m 40 #[.val (.ref (A 10))] [(.int (1 : Int32))]))
  refine OGets.retN X262 hx hlk (t := .boolean) Bd.returns (by simp) (hb hby d3m15_40) (Nat.le_of_ble_eq_true rfl) (Nat.le_of_ble_eq_true rfl) ?_
  exact ⟨rfl, rfl, e262⟩
theorem ef_rv10 (m : MethodId) (x0 : Addr) : entryFrame m #[(.ref x0)] 1 = mkF m 0 #[.val (.ref x0)] [] := by first | (simp [entryFrame, mkF, argsToLocals, Value.category]; done) | rfl
def Q_rv10 (Z : State) (A : Nat → Addr) (h0 : Heap) (n0 : Nat) (v : Option Value) (h : Heap) (L : List Loc) : Prop := v = some (.int (1 : Int32)) ∧ L = [] ∧ h = h0
set_option maxRecDepth 65536 in
set_option maxHeartbeats 40000000 in
theorem rm_rv10 (l : Launch) (Z : State) (a0 : Array Value) (hw : ∀ d ∈ tables_1, d.before a0 Z = true) (ws : List Jvm.Cond) (A : Nat → Addr) (h0 : Heap) (n0 : Nat) (Z0 : n0 ≤ h0.size) (hS : ∀ i, i < 13 → Sta Z h0 "com/example/pelt/pelt/Axis" (nmOf i) "Lcom/example/pelt/pelt/Axis;" (.ref (A i))) (hI : ∀ i j, i < 13 → j < 13 → A i = A j → i = j) :
    MetFree l (⟨"com/example/pelt/pelt/Axis", "isReverse", "()Z"⟩ : MethodName) (head1 (Jvm.Cond.code (⟨"com/example/pelt/pelt/Axis", "isReverse", "()Z"⟩ : MethodName) prog_3_method_6_code 1 (some .boolean) :: ws) ({ frames := 0, cells := 0, slots := 0, locals := 0 } : Room)) (fun a_ U => a_ = #[(.ref (A 10))] ∧ Z.Warmed39 U.vm ∧ U.heap = h0) (fun _ _ _ _ _ => True) (fun _ U o U' => ∃ v L, o = .returned v ∧ Q_rv10 Z A h0 n0 v U'.heap L ∧ FrameEnd U o U' L ({ frames := 0, cells := 0, slots := 0, locals := 0 } : Room).cells ({ frames := 0, cells := 0, slots := 0, locals := 0 } : Room).slots) := by
  refine MetFree.of_bodySF (plainFor_of_name pn_1) hisR ?_
  intro p e s m args below meth c s₁ Bd hml0 hP hK
  obtain ⟨rfl, hZ, hh⟩ := hP
  have hx := Bd.exec
  have hby := Bd.bytes
  have hlk : meth.locks = false := Bd.notSynchronized
  have hml : c.maxLocals = 1 := hml0
  have hown : s.vm.findClass "com/example/pelt/pelt/Axis" = some m.cls := findClass_of_methodNamed Bd.named
  have hnm := (name_of_methodNamed Bd.named Bd.method).1
  have X0 : Stand p l e ({ frames := 0, cells := 0, slots := 0, locals := 0 } : Room) s m #[(.ref (A 10))] below meth c s₁ [] 0 0 := Stand.of_body Bd
  have e0 : s₁.heap = h0 := by rw [← hh, Bd.state]; rfl
  have N0 := Fr.nil n0
  show OGets p e below (OLeaves s (Q_rv10 Z A h0 n0 ) ({ frames := 0, cells := 0, slots := 0, locals := 0 } : Room).cells ({ frames := 0, cells := 0, slots := 0, locals := 0 } : Room).slots) _
  refine OGets.enter (ef_rv10 m (A 10)) ?_
  show OGets p e below _ (s₁.setTop (mkF m 0 #[.val (.ref (A 10))] []))
  refine OGets.step (fun _ => XS.aloadN X0.here hx rfl (hb hby d3m6_0) rfl rfl) ?_
  show OGets p e below _ (s₁.setTop (mkF m 1 #[.val (.ref (A 10))] [(.ref (A 10))]))
  obtain ⟨T263, X263, e263, st263⟩ := getS2 X0 hx hZ hown (host := "") (Or.inl (hw _ (List.mem_of_getElem? (i := 28) rfl))) Via.refl e0 (show Sta Z h0 "com/example/pelt/pelt/Axis" "ANCESTOR" "Lcom/example/pelt/pelt/Axis;" (.ref (A 0)) from hS 0 (by decide)) (g := (mkF m 1 #[.val (.ref (A 10))] [(.ref (A 10))])) rfl (hb hby d3m6_1)
  refine OGets.step st263 ?_
  show OGets p e below _ (T263.setTop (mkF m 4 #[.val (.ref (A 10))] [(.ref (A 0)), (.ref (A 10))]))
  refine OGets.step (fun _ => Jvm.RoadKit.acmp (g := (mkF m 4 #[.val (.ref (A 10))] [(.ref (A 0)), (.ref (A 10))])) X263 hx rfl rfl rfl (pc0 := 4) (pc' := 7) (same := false) rfl (hb hby d3m6_4) rfl (decide_eq_false fun q => absurd (hI 10 0 (by decide) (by decide) (Value.ref.inj q)) (by decide)) (by decide) (by decide)) ?_
  show OGets p e below _ (T263.setTop (mkF m 7 #[.val (.ref (A 10))] []))
  refine OGets.step (fun _ => XS.aloadN X263.here hx rfl (hb hby d3m6_7) rfl rfl) ?_
  show OGets p e below _ (T263.setTop (mkF m 8 #[.val (.ref (A 10))] [(.ref (A 10))]))
  obtain ⟨T264, X264, e264, st264⟩ := getS2 X263 hx hZ hown (host := "") (Or.inl (hw _ (List.mem_of_getElem? (i := 35) rfl))) Via.refl e263 (show Sta Z h0 "com/example/pelt/pelt/Axis" "ANCESTOR_OR_SELF" "Lcom/example/pelt/pelt/Axis;" (.ref (A 1)) from hS 1 (by decide)) (g := (mkF m 8 #[.val (.ref (A 10))] [(.ref (A 10))])) rfl (hb hby d3m6_8)
  refine OGets.step st264 ?_
  show OGets p e below _ (T264.setTop (mkF m 11 #[.val (.ref (A 10))] [(.ref (A 1)), (.ref (A 10))]))
  refine OGets.step (fun _ => Jvm.RoadKit.acmp (g := (mkF m 11 #[.val (.ref (A 10))] [(.ref (A 1)), (.ref (A 10))])) X264 hx rfl rfl rfl (pc0 := 11) (pc' := 14) (same := false) rfl (hb hby d3m6_11) rfl (decide_eq_false fun q => absurd (hI 10 1 (by decide) (by decide) (Value.ref.inj q)) (by decide)) (by decide) (by decide)) ?_
  show OGets p e below _ (T264.setTop (mkF m 14 #[.val (.ref (A 10))] []))
  refine OGets.step (fun _ => XS.aloadN X264.here hx rfl (hb hby d3m6_14) rfl rfl) ?_
  show OGets p e below _ (T264.setTop (mkF m 15 #[.val (.ref (A 10))] [(.ref (A 10))]))
  obtain ⟨T265, X265, e265, st265⟩ := getS2 X264 hx hZ hown (host := "") (Or.inl (hw _ (List.mem_of_getElem? (i := 37) rfl))) Via.refl e264 (show Sta Z h0 "com/example/pelt/pelt/Axis" "PRECEDING" "Lcom/example/pelt/pelt/Axis;" (.ref (A 10)) from hS 10 (by decide)) (g := (mkF m 15 #[.val (.ref (A 10))] [(.ref (A 10))])) rfl (hb hby d3m6_15)
  refine OGets.step st265 ?_
  show OGets p e below _ (T265.setTop (mkF m 18 #[.val (.ref (A 10))] [(.ref (A 10)), (.ref (A 10))]))
  refine OGets.step (fun _ => Jvm.RoadKit.acmp (g := (mkF m 18 #[.val (.ref (A 10))] [(.ref (A 10)), (.ref (A 10))])) X265 hx rfl rfl rfl (pc0 := 18) (pc' := 28) (same := true) rfl (hb hby d3m6_18) rfl (decide_eq_true rfl) (by decide) (by decide)) ?_
  show OGets p e below _ (T265.setTop (mkF m 28 #[.val (.ref (A 10))] []))
  refine OGets.step (fun _ => XS.iconst X265.here hx rfl (hb hby d3m6_28)) ?_
  show OGets p e below _ (T265.setTop (mkF m 29 #[.val (.ref (A 10))] [(.int (1 : Int32))]))
  refine OGets.step (fun _ => XS.goto X265.here hx rfl (pc0 := 29) (pc' := 33) rfl (hb hby d3m6_29) (by decide) (by decide)) ?_
  show OGets p e below _ (T265.setTop (mkF m 33 #[.val (.ref (A 10))] [(.int (1 : Int32))]))
  refine OGets.retN X265 hx hlk (t := .boolean) Bd.returns (by simp) (hb hby d3m6_33) (Nat.le_of_ble_eq_true rfl) (Nat.le_of_ble_eq_true rfl) ?_
  exact ⟨rfl, rfl, e265⟩
theorem dm3_61 : decode method_3_code 61 = .ok (.iconst 1, 1) := by decide +kernel
theorem dm3_62 : decode method_3_code 62 = .ok (.goto 4, 3) := by decide +kernel
theorem ef_ex10 (m : MethodId) (x0 : Int32) : entryFrame m #[(.int x0)] 5 = mkF m 0 #[.val (.int x0), .unset, .unset, .unset, .unset] [] := by first | (simp [entryFrame, mkF, argsToLocals, Value.category]; done) | rfl
def Q_ex10 (Z : State)  (h0 : Heap) (n0 : Nat) (v : Option Value) (h : Heap) (L : List Loc) : Prop := v = some (.int (1 : Int32)) ∧ L = [] ∧ h = h0
set_option maxRecDepth 65536 in
set_option maxHeartbeats 40000000 in
theorem rm_ex10 (l : Launch) (Z : State) (a0 : Array Value) (hw : ∀ d ∈ tables_1, d.before a0 Z = true) (ws : List Jvm.Cond)  (h0 : Heap) (n0 : Nat) (Z0 : n0 ≤ h0.size) :
    MetFree l (⟨"com/example/pelt/pelt/AxisListsOverlapPinLaw", "expected", "(I)Z"⟩ : MethodName) (head1 (Jvm.Cond.code (⟨"com/example/pelt/pelt/AxisListsOverlapPinLaw", "expected", "(I)Z"⟩ : MethodName) method_3_code 5 (some .boolean) :: ws) ({ frames := 0, cells := 0, slots := 0, locals := 0 } : Room)) (fun a_ U => a_ = #[(.int (10 : Int32))] ∧ Z.Warmed39 U.vm ∧ U.heap = h0) (fun _ _ _ _ _ => True) (fun _ U o U' => ∃ v L, o = .returned v ∧ Q_ex10 Z  h0 n0 v U'.heap L ∧ FrameEnd U o U' L ({ frames := 0, cells := 0, slots := 0, locals := 0 } : Room).cells ({ frames := 0, cells := 0, slots := 0, locals := 0 } : Room).slots) := by
  refine MetFree.of_bodySF (plainFor_of_name pn_0) hisR ?_
  intro p e s m args below meth c s₁ Bd hml0 hP hK
  obtain ⟨rfl, hZ, hh⟩ := hP
  have hx := Bd.exec
  have hby := Bd.bytes
  have hlk : meth.locks = false := Bd.notSynchronized
  have hml : c.maxLocals = 5 := hml0
  have hown : s.vm.findClass "com/example/pelt/pelt/AxisListsOverlapPinLaw" = some m.cls := findClass_of_methodNamed Bd.named
  have hnm := (name_of_methodNamed Bd.named Bd.method).1
  have X0 : Stand p l e ({ frames := 0, cells := 0, slots := 0, locals := 0 } : Room) s m #[(.int (10 : Int32))] below meth c s₁ [] 0 0 := Stand.of_body Bd
  have e0 : s₁.heap = h0 := by rw [← hh, Bd.state]; rfl
  have N0 := Fr.nil n0
  show OGets p e below (OLeaves s (Q_ex10 Z  h0 n0 ) ({ frames := 0, cells := 0, slots := 0, locals := 0 } : Room).cells ({ frames := 0, cells := 0, slots := 0, locals := 0 } : Room).slots) _
  refine OGets.enter (ef_ex10 m (10 : Int32)) ?_
  show OGets p e below _ (s₁.setTop (mkF m 0 #[.val (.int (10 : Int32)), .unset, .unset, .unset, .unset] []))
  refine OGets.step (fun _ => XS.iloadN X0.here hx rfl (hb hby dm3_0) rfl) ?_
  show OGets p e below _ (s₁.setTop (mkF m 1 #[.val (.int (10 : Int32)), .unset, .unset, .unset, .unset] [(.int (10 : Int32))]))
  refine OGets.step (fun _ => XS.ifNo X0.here hx rfl (hb hby dm3_1) rfl ((if0 _ _).trans (feq (by decide : ¬ ((10 : Int32) = (0 : Int32)))).1)) ?_
  show OGets p e below _ (s₁.setTop (mkF m 4 #[.val (.int (10 : Int32)), .unset, .unset, .unset, .unset] []))
  refine OGets.step (fun _ => XS.iloadN X0.here hx rfl (hb hby dm3_4) rfl) ?_
  show OGets p e below _ (s₁.setTop (mkF m 5 #[.val (.int (10 : Int32)), .unset, .unset, .unset, .unset] [(.int (10 : Int32))]))
  refine OGets.step (fun _ => XS.iconst X0.here hx rfl (hb hby dm3_5)) ?_
  show OGets p e below _ (s₁.setTop (mkF m 6 #[.val (.int (10 : Int32)), .unset, .unset, .unset, .unset] [(.int (1 : Int32)), (.int (10 : Int32))]))
  refine OGets.step (fun _ => XS.icmpYes X0.here hx rfl (pc0 := 6) (pc' := 13) rfl (hb hby dm3_6) rfl (feq (by decide : ¬ ((10 : Int32) = (1 : Int32)))).2 (by decide) (by decide)) ?_
  show OGets p e below _ (s₁.setTop (mkF m 13 #[.val (.int (10 : Int32)), .unset, .unset, .unset, .unset] []))
  refine OGets.step (fun _ => XS.iconst X0.here hx rfl (hb hby dm3_13)) ?_
  show OGets p e below _ (s₁.setTop (mkF m 14 #[.val (.int (10 : Int32)), .unset, .unset, .unset, .unset] [(.int (0 : Int32))]))
  refine OGets.step (fun _ => XS.istoreN X0.here hx rfl (hb hby dm3_14) rfl (l' := #[.val (.int (10 : Int32)), .val (.int (0 : Int32)), .unset, .unset, .unset]) rfl) ?_
  show OGets p e below _ (s₁.setTop (mkF m 15 #[.val (.int (10 : Int32)), .val (.int (0 : Int32)), .unset, .unset, .unset] []))
  refine OGets.step (fun _ => XS.iloadN X0.here hx rfl (hb hby dm3_15) rfl) ?_
  show OGets p e below _ (s₁.setTop (mkF m 16 #[.val (.int (10 : Int32)), .val (.int (0 : Int32)), .unset, .unset, .unset] [(.int (10 : Int32))]))
  refine OGets.step (fun _ => XS.iconst X0.here hx rfl (hb hby dm3_16)) ?_
  show OGets p e below _ (s₁.setTop (mkF m 17 #[.val (.int (10 : Int32)), .val (.int (0 : Int32)), .unset, .unset, .unset] [(.int (4 : Int32)), (.int (10 : Int32))]))
  refine OGets.step (fun _ => XS.icmpNo X0.here hx rfl (hb hby dm3_17) rfl (feq (by decide : ¬ ((10 : Int32) = (4 : Int32)))).1) ?_
  show OGets p e below _ (s₁.setTop (mkF m 20 #[.val (.int (10 : Int32)), .val (.int (0 : Int32)), .unset, .unset, .unset] []))
  refine OGets.step (fun _ => XS.iloadN X0.here hx rfl (hb hby dm3_20) rfl) ?_
  show OGets p e below _ (s₁.setTop (mkF m 21 #[.val (.int (10 : Int32)), .val (.int (0 : Int32)), .unset, .unset, .unset] [(.int (10 : Int32))]))
  refine OGets.step (fun _ => XS.iconst X0.here hx rfl (hb hby dm3_21)) ?_
  show OGets p e below _ (s₁.setTop (mkF m 22 #[.val (.int (10 : Int32)), .val (.int (0 : Int32)), .unset, .unset, .unset] [(.int (5 : Int32)), (.int (10 : Int32))]))
  refine OGets.step (fun _ => XS.icmpYes X0.here hx rfl (pc0 := 22) (pc' := 29) rfl (hb hby dm3_22) rfl (feq (by decide : ¬ ((10 : Int32) = (5 : Int32)))).2 (by decide) (by decide)) ?_
  show OGets p e below _ (s₁.setTop (mkF m 29 #[.val (.int (10 : Int32)), .val (.int (0 : Int32)), .unset, .unset, .unset] []))
  refine OGets.step (fun _ => XS.iconst X0.here hx rfl (hb hby dm3_29)) ?_
  show OGets p e below _ (s₁.setTop (mkF m 30 #[.val (.int (10 : Int32)), .val (.int (0 : Int32)), .unset, .unset, .unset] [(.int (0 : Int32))]))
  refine OGets.step (fun _ => XS.istoreN X0.here hx rfl (hb hby dm3_30) rfl (l' := #[.val (.int (10 : Int32)), .val (.int (0 : Int32)), .val (.int (0 : Int32)), .unset, .unset]) rfl) ?_
  show OGets p e below _ (s₁.setTop (mkF m 31 #[.val (.int (10 : Int32)), .val (.int (0 : Int32)), .val (.int (0 : Int32)), .unset, .unset] []))
  refine OGets.step (fun _ => XS.iloadN X0.here hx rfl (hb hby dm3_31) rfl) ?_
  show OGets p e below _ (s₁.setTop (mkF m 32 #[.val (.int (10 : Int32)), .val (.int (0 : Int32)), .val (.int (0 : Int32)), .unset, .unset] [(.int (10 : Int32))]))
  refine OGets.step (fun _ => XS.bipush X0.here hx rfl (hb hby dm3_32)) ?_
  show OGets p e below _ (s₁.setTop (mkF m 34 #[.val (.int (10 : Int32)), .val (.int (0 : Int32)), .val (.int (0 : Int32)), .unset, .unset] [(.int (6 : Int32)), (.int (10 : Int32))]))
  refine OGets.step (fun _ => XS.icmpNo X0.here hx rfl (hb hby dm3_34) rfl (feq (by decide : ¬ ((10 : Int32) = (6 : Int32)))).1) ?_
  show OGets p e below _ (s₁.setTop (mkF m 37 #[.val (.int (10 : Int32)), .val (.int (0 : Int32)), .val (.int (0 : Int32)), .unset, .unset] []))
  refine OGets.step (fun _ => XS.iloadN X0.here hx rfl (hb hby dm3_37) rfl) ?_
  show OGets p e below _ (s₁.setTop (mkF m 38 #[.val (.int (10 : Int32)), .val (.int (0 : Int32)), .val (.int (0 : Int32)), .unset, .unset] [(.int (10 : Int32))]))
  refine OGets.step (fun _ => XS.bipush X0.here hx rfl (hb hby dm3_38)) ?_
  show OGets p e below _ (s₁.setTop (mkF m 40 #[.val (.int (10 : Int32)), .val (.int (0 : Int32)), .val (.int (0 : Int32)), .unset, .unset] [(.int (7 : Int32)), (.int (10 : Int32))]))
  refine OGets.step (fun _ => XS.icmpYes X0.here hx rfl (pc0 := 40) (pc' := 47) rfl (hb hby dm3_40) rfl (feq (by decide : ¬ ((10 : Int32) = (7 : Int32)))).2 (by decide) (by decide)) ?_
  show OGets p e below _ (s₁.setTop (mkF m 47 #[.val (.int (10 : Int32)), .val (.int (0 : Int32)), .val (.int (0 : Int32)), .unset, .unset] []))
  refine OGets.step (fun _ => XS.iconst X0.here hx rfl (hb hby dm3_47)) ?_
  show OGets p e below _ (s₁.setTop (mkF m 48 #[.val (.int (10 : Int32)), .val (.int (0 : Int32)), .val (.int (0 : Int32)), .unset, .unset] [(.int (0 : Int32))]))
  refine OGets.step (fun _ => XS.istoreN X0.here hx rfl (hb hby dm3_48) rfl (l' := #[.val (.int (10 : Int32)), .val (.int (0 : Int32)), .val (.int (0 : Int32)), .val (.int (0 : Int32)), .unset]) rfl) ?_
  show OGets p e below _ (s₁.setTop (mkF m 49 #[.val (.int (10 : Int32)), .val (.int (0 : Int32)), .val (.int (0 : Int32)), .val (.int (0 : Int32)), .unset] []))
  refine OGets.step (fun _ => XS.iloadN X0.here hx rfl (hb hby dm3_49) rfl) ?_
  show OGets p e below _ (s₁.setTop (mkF m 50 #[.val (.int (10 : Int32)), .val (.int (0 : Int32)), .val (.int (0 : Int32)), .val (.int (0 : Int32)), .unset] [(.int (10 : Int32))]))
  refine OGets.step (fun _ => XS.bipush X0.here hx rfl (hb hby dm3_50)) ?_
  show OGets p e below _ (s₁.setTop (mkF m 52 #[.val (.int (10 : Int32)), .val (.int (0 : Int32)), .val (.int (0 : Int32)), .val (.int (0 : Int32)), .unset] [(.int (10 : Int32)), (.int (10 : Int32))]))
  refine OGets.step (fun _ => XS.icmpYes X0.here hx rfl (pc0 := 52) (pc' := 61) rfl (hb hby dm3_52) rfl (teq (by decide : (10 : Int32) = (10 : Int32))).1 (by decide) (by decide)) ?_
  show OGets p e below _ (s₁.setTop (mkF m 61 #[.val (.int (10 : Int32)), .val (.int (0 : Int32)), .val (.int (0 : Int32)), .val (.int (0 : Int32)), .unset] []))
  refine OGets.step (fun _ => XS.iconst X0.here hx rfl (hb hby dm3_61)) ?_
  show OGets p e below _ (s₁.setTop (mkF m 62 #[.val (.int (10 : Int32)), .val (.int (0 : Int32)), .val (.int (0 : Int32)), .val (.int (0 : Int32)), .unset] [(.int (1 : Int32))]))
  refine OGets.step (fun _ => XS.goto X0.here hx rfl (pc0 := 62) (pc' := 66) rfl (hb hby dm3_62) (by decide) (by decide)) ?_
  show OGets p e below _ (s₁.setTop (mkF m 66 #[.val (.int (10 : Int32)), .val (.int (0 : Int32)), .val (.int (0 : Int32)), .val (.int (0 : Int32)), .unset] [(.int (1 : Int32))]))
  refine OGets.step (fun _ => XS.istore X0.here hx rfl (hb hby dm3_66) rfl (l' := #[.val (.int (10 : Int32)), .val (.int (0 : Int32)), .val (.int (0 : Int32)), .val (.int (0 : Int32)), .val (.int (1 : Int32))]) rfl) ?_
  show OGets p e below _ (s₁.setTop (mkF m 68 #[.val (.int (10 : Int32)), .val (.int (0 : Int32)), .val (.int (0 : Int32)), .val (.int (0 : Int32)), .val (.int (1 : Int32))] []))
  refine OGets.step (fun _ => XS.iloadN X0.here hx rfl (hb hby dm3_68) rfl) ?_
  show OGets p e below _ (s₁.setTop (mkF m 69 #[.val (.int (10 : Int32)), .val (.int (0 : Int32)), .val (.int (0 : Int32)), .val (.int (0 : Int32)), .val (.int (1 : Int32))] [(.int (0 : Int32))]))
  refine OGets.step (fun _ => XS.ifNo X0.here hx rfl (hb hby dm3_69) rfl ((if0 _ _).trans (teq (by decide : (0 : Int32) = (0 : Int32))).2)) ?_
  show OGets p e below _ (s₁.setTop (mkF m 72 #[.val (.int (10 : Int32)), .val (.int (0 : Int32)), .val (.int (0 : Int32)), .val (.int (0 : Int32)), .val (.int (1 : Int32))] []))
  refine OGets.step (fun _ => XS.iloadN X0.here hx rfl (hb hby dm3_72) rfl) ?_
  show OGets p e below _ (s₁.setTop (mkF m 73 #[.val (.int (10 : Int32)), .val (.int (0 : Int32)), .val (.int (0 : Int32)), .val (.int (0 : Int32)), .val (.int (1 : Int32))] [(.int (0 : Int32))]))
  refine OGets.step (fun _ => XS.ifNo X0.here hx rfl (hb hby dm3_73) rfl ((if0 _ _).trans (teq (by decide : (0 : Int32) = (0 : Int32))).2)) ?_
  show OGets p e below _ (s₁.setTop (mkF m 76 #[.val (.int (10 : Int32)), .val (.int (0 : Int32)), .val (.int (0 : Int32)), .val (.int (0 : Int32)), .val (.int (1 : Int32))] []))
  refine OGets.step (fun _ => XS.iloadN X0.here hx rfl (hb hby dm3_76) rfl) ?_
  show OGets p e below _ (s₁.setTop (mkF m 77 #[.val (.int (10 : Int32)), .val (.int (0 : Int32)), .val (.int (0 : Int32)), .val (.int (0 : Int32)), .val (.int (1 : Int32))] [(.int (0 : Int32))]))
  refine OGets.step (fun _ => XS.ifNo X0.here hx rfl (hb hby dm3_77) rfl ((if0 _ _).trans (teq (by decide : (0 : Int32) = (0 : Int32))).2)) ?_
  show OGets p e below _ (s₁.setTop (mkF m 80 #[.val (.int (10 : Int32)), .val (.int (0 : Int32)), .val (.int (0 : Int32)), .val (.int (0 : Int32)), .val (.int (1 : Int32))] []))
  refine OGets.step (fun _ => XS.iload X0.here hx rfl (hb hby dm3_80) rfl) ?_
  show OGets p e below _ (s₁.setTop (mkF m 82 #[.val (.int (10 : Int32)), .val (.int (0 : Int32)), .val (.int (0 : Int32)), .val (.int (0 : Int32)), .val (.int (1 : Int32))] [(.int (1 : Int32))]))
  refine OGets.step (fun _ => XS.ifNo X0.here hx rfl (hb hby dm3_82) rfl ((if0 _ _).trans (feq (by decide : ¬ ((1 : Int32) = (0 : Int32)))).1)) ?_
  show OGets p e below _ (s₁.setTop (mkF m 85 #[.val (.int (10 : Int32)), .val (.int (0 : Int32)), .val (.int (0 : Int32)), .val (.int (0 : Int32)), .val (.int (1 : Int32))] []))
  refine OGets.step (fun _ => XS.iconst X0.here hx rfl (hb hby dm3_85)) ?_
  show OGets p e below _ (s₁.setTop (mkF m 86 #[.val (.int (10 : Int32)), .val (.int (0 : Int32)), .val (.int (0 : Int32)), .val (.int (0 : Int32)), .val (.int (1 : Int32))] [(.int (1 : Int32))]))
  refine OGets.step (fun _ => XS.goto X0.here hx rfl (pc0 := 86) (pc' := 90) rfl (hb hby dm3_86) (by decide) (by decide)) ?_
  show OGets p e below _ (s₁.setTop (mkF m 90 #[.val (.int (10 : Int32)), .val (.int (0 : Int32)), .val (.int (0 : Int32)), .val (.int (0 : Int32)), .val (.int (1 : Int32))] [(.int (1 : Int32))]))
  refine OGets.retN X0 hx hlk (t := .boolean) Bd.returns (by simp) (hb hby dm3_90) (Nat.le_of_ble_eq_true rfl) (Nat.le_of_ble_eq_true rfl) ?_
  exact ⟨rfl, rfl, e0⟩
theorem dm2_103 : decode method_2_code 103 = .ok (.iload_n 0, 1) := by decide +kernel
theorem dm2_104 : decode method_2_code 104 = .ok (.bipush 11, 2) := by decide +kernel
theorem dm2_106 : decode method_2_code 106 = .ok (.if_icmp .ne 7, 3) := by decide +kernel
theorem dm2_109 : decode method_2_code 109 = .ok (.getstatic 43, 3) := by decide +kernel
theorem dm2_112 : decode method_2_code 112 = .ok (.areturn, 1) := by decide +kernel
theorem ef_pk11 (m : MethodId) (x0 : Int32) : entryFrame m #[(.int x0)] 1 = mkF m 0 #[.val (.int x0)] [] := by first | (simp [entryFrame, mkF, argsToLocals, Value.category]; done) | rfl
def Q_pk11 (Z : State) (A : Nat → Addr) (h0 : Heap) (n0 : Nat) (v : Option Value) (h : Heap) (L : List Loc) : Prop := v = some (.ref (A 11)) ∧ L = [] ∧ h = h0
set_option maxRecDepth 65536 in
set_option maxHeartbeats 40000000 in
theorem rm_pk11 (l : Launch) (Z : State) (a0 : Array Value) (hw : ∀ d ∈ tables_1, d.before a0 Z = true) (ws : List Jvm.Cond) (A : Nat → Addr) (h0 : Heap) (n0 : Nat) (Z0 : n0 ≤ h0.size) (hS : ∀ i, i < 13 → Sta Z h0 "com/example/pelt/pelt/Axis" (nmOf i) "Lcom/example/pelt/pelt/Axis;" (.ref (A i))) (hI : ∀ i j, i < 13 → j < 13 → A i = A j → i = j) :
    MetFree l (⟨"com/example/pelt/pelt/AxisListsOverlapPinLaw", "pick", "(I)Lcom/example/pelt/pelt/Axis;"⟩ : MethodName) (head1 (Jvm.Cond.code (⟨"com/example/pelt/pelt/AxisListsOverlapPinLaw", "pick", "(I)Lcom/example/pelt/pelt/Axis;"⟩ : MethodName) method_2_code 1 (some (.object "com/example/pelt/pelt/Axis")) :: ws) ({ frames := 0, cells := 0, slots := 0, locals := 0 } : Room)) (fun a_ U => a_ = #[(.int (11 : Int32))] ∧ Z.Warmed39 U.vm ∧ U.heap = h0) (fun _ _ _ _ _ => True) (fun _ U o U' => ∃ v L, o = .returned v ∧ Q_pk11 Z A h0 n0 v U'.heap L ∧ FrameEnd U o U' L ({ frames := 0, cells := 0, slots := 0, locals := 0 } : Room).cells ({ frames := 0, cells := 0, slots := 0, locals := 0 } : Room).slots) := by
  refine MetFree.of_bodySF (plainFor_of_name pn_0) hisR ?_
  intro p e s m args below meth c s₁ Bd hml0 hP hK
  obtain ⟨rfl, hZ, hh⟩ := hP
  have hx := Bd.exec
  have hby := Bd.bytes
  have hlk : meth.locks = false := Bd.notSynchronized
  have hml : c.maxLocals = 1 := hml0
  have hown : s.vm.findClass "com/example/pelt/pelt/AxisListsOverlapPinLaw" = some m.cls := findClass_of_methodNamed Bd.named
  have hnm := (name_of_methodNamed Bd.named Bd.method).1
  have X0 : Stand p l e ({ frames := 0, cells := 0, slots := 0, locals := 0 } : Room) s m #[(.int (11 : Int32))] below meth c s₁ [] 0 0 := Stand.of_body Bd
  have e0 : s₁.heap = h0 := by rw [← hh, Bd.state]; rfl
  have N0 := Fr.nil n0
  show OGets p e below (OLeaves s (Q_pk11 Z A h0 n0 ) ({ frames := 0, cells := 0, slots := 0, locals := 0 } : Room).cells ({ frames := 0, cells := 0, slots := 0, locals := 0 } : Room).slots) _
  refine OGets.enter (ef_pk11 m (11 : Int32)) ?_
  show OGets p e below _ (s₁.setTop (mkF m 0 #[.val (.int (11 : Int32))] []))
  refine OGets.step (fun _ => XS.iloadN X0.here hx rfl (hb hby dm2_0) rfl) ?_
  show OGets p e below _ (s₁.setTop (mkF m 1 #[.val (.int (11 : Int32))] [(.int (11 : Int32))]))
  refine OGets.step (fun _ => XS.ifYes X0.here hx rfl (pc0 := 1) (pc' := 8) rfl (hb hby dm2_1) rfl ((if0 _ _).trans (feq (by decide : ¬ ((11 : Int32) = (0 : Int32)))).2) (by decide) (by decide)) ?_
  show OGets p e below _ (s₁.setTop (mkF m 8 #[.val (.int (11 : Int32))] []))
  refine OGets.step (fun _ => XS.iloadN X0.here hx rfl (hb hby dm2_8) rfl) ?_
  show OGets p e below _ (s₁.setTop (mkF m 9 #[.val (.int (11 : Int32))] [(.int (11 : Int32))]))
  refine OGets.step (fun _ => XS.iconst X0.here hx rfl (hb hby dm2_9)) ?_
  show OGets p e below _ (s₁.setTop (mkF m 10 #[.val (.int (11 : Int32))] [(.int (1 : Int32)), (.int (11 : Int32))]))
  refine OGets.step (fun _ => XS.icmpYes X0.here hx rfl (pc0 := 10) (pc' := 17) rfl (hb hby dm2_10) rfl (feq (by decide : ¬ ((11 : Int32) = (1 : Int32)))).2 (by decide) (by decide)) ?_
  show OGets p e below _ (s₁.setTop (mkF m 17 #[.val (.int (11 : Int32))] []))
  refine OGets.step (fun _ => XS.iloadN X0.here hx rfl (hb hby dm2_17) rfl) ?_
  show OGets p e below _ (s₁.setTop (mkF m 18 #[.val (.int (11 : Int32))] [(.int (11 : Int32))]))
  refine OGets.step (fun _ => XS.iconst X0.here hx rfl (hb hby dm2_18)) ?_
  show OGets p e below _ (s₁.setTop (mkF m 19 #[.val (.int (11 : Int32))] [(.int (2 : Int32)), (.int (11 : Int32))]))
  refine OGets.step (fun _ => XS.icmpYes X0.here hx rfl (pc0 := 19) (pc' := 26) rfl (hb hby dm2_19) rfl (feq (by decide : ¬ ((11 : Int32) = (2 : Int32)))).2 (by decide) (by decide)) ?_
  show OGets p e below _ (s₁.setTop (mkF m 26 #[.val (.int (11 : Int32))] []))
  refine OGets.step (fun _ => XS.iloadN X0.here hx rfl (hb hby dm2_26) rfl) ?_
  show OGets p e below _ (s₁.setTop (mkF m 27 #[.val (.int (11 : Int32))] [(.int (11 : Int32))]))
  refine OGets.step (fun _ => XS.iconst X0.here hx rfl (hb hby dm2_27)) ?_
  show OGets p e below _ (s₁.setTop (mkF m 28 #[.val (.int (11 : Int32))] [(.int (3 : Int32)), (.int (11 : Int32))]))
  refine OGets.step (fun _ => XS.icmpYes X0.here hx rfl (pc0 := 28) (pc' := 35) rfl (hb hby dm2_28) rfl (feq (by decide : ¬ ((11 : Int32) = (3 : Int32)))).2 (by decide) (by decide)) ?_
  show OGets p e below _ (s₁.setTop (mkF m 35 #[.val (.int (11 : Int32))] []))
  refine OGets.step (fun _ => XS.iloadN X0.here hx rfl (hb hby dm2_35) rfl) ?_
  show OGets p e below _ (s₁.setTop (mkF m 36 #[.val (.int (11 : Int32))] [(.int (11 : Int32))]))
  refine OGets.step (fun _ => XS.iconst X0.here hx rfl (hb hby dm2_36)) ?_
  show OGets p e below _ (s₁.setTop (mkF m 37 #[.val (.int (11 : Int32))] [(.int (4 : Int32)), (.int (11 : Int32))]))
  refine OGets.step (fun _ => XS.icmpYes X0.here hx rfl (pc0 := 37) (pc' := 44) rfl (hb hby dm2_37) rfl (feq (by decide : ¬ ((11 : Int32) = (4 : Int32)))).2 (by decide) (by decide)) ?_
  show OGets p e below _ (s₁.setTop (mkF m 44 #[.val (.int (11 : Int32))] []))
  refine OGets.step (fun _ => XS.iloadN X0.here hx rfl (hb hby dm2_44) rfl) ?_
  show OGets p e below _ (s₁.setTop (mkF m 45 #[.val (.int (11 : Int32))] [(.int (11 : Int32))]))
  refine OGets.step (fun _ => XS.iconst X0.here hx rfl (hb hby dm2_45)) ?_
  show OGets p e below _ (s₁.setTop (mkF m 46 #[.val (.int (11 : Int32))] [(.int (5 : Int32)), (.int (11 : Int32))]))
  refine OGets.step (fun _ => XS.icmpYes X0.here hx rfl (pc0 := 46) (pc' := 53) rfl (hb hby dm2_46) rfl (feq (by decide : ¬ ((11 : Int32) = (5 : Int32)))).2 (by decide) (by decide)) ?_
  show OGets p e below _ (s₁.setTop (mkF m 53 #[.val (.int (11 : Int32))] []))
  refine OGets.step (fun _ => XS.iloadN X0.here hx rfl (hb hby dm2_53) rfl) ?_
  show OGets p e below _ (s₁.setTop (mkF m 54 #[.val (.int (11 : Int32))] [(.int (11 : Int32))]))
  refine OGets.step (fun _ => XS.bipush X0.here hx rfl (hb hby dm2_54)) ?_
  show OGets p e below _ (s₁.setTop (mkF m 56 #[.val (.int (11 : Int32))] [(.int (6 : Int32)), (.int (11 : Int32))]))
  refine OGets.step (fun _ => XS.icmpYes X0.here hx rfl (pc0 := 56) (pc' := 63) rfl (hb hby dm2_56) rfl (feq (by decide : ¬ ((11 : Int32) = (6 : Int32)))).2 (by decide) (by decide)) ?_
  show OGets p e below _ (s₁.setTop (mkF m 63 #[.val (.int (11 : Int32))] []))
  refine OGets.step (fun _ => XS.iloadN X0.here hx rfl (hb hby dm2_63) rfl) ?_
  show OGets p e below _ (s₁.setTop (mkF m 64 #[.val (.int (11 : Int32))] [(.int (11 : Int32))]))
  refine OGets.step (fun _ => XS.bipush X0.here hx rfl (hb hby dm2_64)) ?_
  show OGets p e below _ (s₁.setTop (mkF m 66 #[.val (.int (11 : Int32))] [(.int (7 : Int32)), (.int (11 : Int32))]))
  refine OGets.step (fun _ => XS.icmpYes X0.here hx rfl (pc0 := 66) (pc' := 73) rfl (hb hby dm2_66) rfl (feq (by decide : ¬ ((11 : Int32) = (7 : Int32)))).2 (by decide) (by decide)) ?_
  show OGets p e below _ (s₁.setTop (mkF m 73 #[.val (.int (11 : Int32))] []))
  refine OGets.step (fun _ => XS.iloadN X0.here hx rfl (hb hby dm2_73) rfl) ?_
  show OGets p e below _ (s₁.setTop (mkF m 74 #[.val (.int (11 : Int32))] [(.int (11 : Int32))]))
  refine OGets.step (fun _ => XS.bipush X0.here hx rfl (hb hby dm2_74)) ?_
  show OGets p e below _ (s₁.setTop (mkF m 76 #[.val (.int (11 : Int32))] [(.int (8 : Int32)), (.int (11 : Int32))]))
  refine OGets.step (fun _ => XS.icmpYes X0.here hx rfl (pc0 := 76) (pc' := 83) rfl (hb hby dm2_76) rfl (feq (by decide : ¬ ((11 : Int32) = (8 : Int32)))).2 (by decide) (by decide)) ?_
  show OGets p e below _ (s₁.setTop (mkF m 83 #[.val (.int (11 : Int32))] []))
  refine OGets.step (fun _ => XS.iloadN X0.here hx rfl (hb hby dm2_83) rfl) ?_
  show OGets p e below _ (s₁.setTop (mkF m 84 #[.val (.int (11 : Int32))] [(.int (11 : Int32))]))
  refine OGets.step (fun _ => XS.bipush X0.here hx rfl (hb hby dm2_84)) ?_
  show OGets p e below _ (s₁.setTop (mkF m 86 #[.val (.int (11 : Int32))] [(.int (9 : Int32)), (.int (11 : Int32))]))
  refine OGets.step (fun _ => XS.icmpYes X0.here hx rfl (pc0 := 86) (pc' := 93) rfl (hb hby dm2_86) rfl (feq (by decide : ¬ ((11 : Int32) = (9 : Int32)))).2 (by decide) (by decide)) ?_
  show OGets p e below _ (s₁.setTop (mkF m 93 #[.val (.int (11 : Int32))] []))
  refine OGets.step (fun _ => XS.iloadN X0.here hx rfl (hb hby dm2_93) rfl) ?_
  show OGets p e below _ (s₁.setTop (mkF m 94 #[.val (.int (11 : Int32))] [(.int (11 : Int32))]))
  refine OGets.step (fun _ => XS.bipush X0.here hx rfl (hb hby dm2_94)) ?_
  show OGets p e below _ (s₁.setTop (mkF m 96 #[.val (.int (11 : Int32))] [(.int (10 : Int32)), (.int (11 : Int32))]))
  refine OGets.step (fun _ => XS.icmpYes X0.here hx rfl (pc0 := 96) (pc' := 103) rfl (hb hby dm2_96) rfl (feq (by decide : ¬ ((11 : Int32) = (10 : Int32)))).2 (by decide) (by decide)) ?_
  show OGets p e below _ (s₁.setTop (mkF m 103 #[.val (.int (11 : Int32))] []))
  refine OGets.step (fun _ => XS.iloadN X0.here hx rfl (hb hby dm2_103) rfl) ?_
  show OGets p e below _ (s₁.setTop (mkF m 104 #[.val (.int (11 : Int32))] [(.int (11 : Int32))]))
  refine OGets.step (fun _ => XS.bipush X0.here hx rfl (hb hby dm2_104)) ?_
  show OGets p e below _ (s₁.setTop (mkF m 106 #[.val (.int (11 : Int32))] [(.int (11 : Int32)), (.int (11 : Int32))]))
  refine OGets.step (fun _ => XS.icmpNo X0.here hx rfl (hb hby dm2_106) rfl (teq (by decide : (11 : Int32) = (11 : Int32))).2) ?_
  show OGets p e below _ (s₁.setTop (mkF m 109 #[.val (.int (11 : Int32))] []))
  obtain ⟨T289, X289, e289, st289⟩ := getS2 X0 hx hZ hown (host := "") (Or.inl (hw _ (List.mem_of_getElem? (i := 59) rfl))) Via.refl e0 (show Sta Z h0 "com/example/pelt/pelt/Axis" "PRECEDING_SIBLING" "Lcom/example/pelt/pelt/Axis;" (.ref (A 11)) from hS 11 (by decide)) (g := (mkF m 109 #[.val (.int (11 : Int32))] [])) rfl (hb hby dm2_109)
  refine OGets.step st289 ?_
  show OGets p e below _ (T289.setTop (mkF m 112 #[.val (.int (11 : Int32))] [(.ref (A 11))]))
  refine OGets.retA X289 hx hlk (t := (.object "com/example/pelt/pelt/Axis")) Bd.returns rfl rfl rfl (hb hby dm2_112) (Nat.le_of_ble_eq_true rfl) (Nat.le_of_ble_eq_true rfl) ?_
  exact ⟨rfl, rfl, e289⟩
theorem ef_lo11 (m : MethodId) (x0 : Addr) : entryFrame m #[(.ref x0)] 1 = mkF m 0 #[.val (.ref x0)] [] := by first | (simp [entryFrame, mkF, argsToLocals, Value.category]; done) | rfl
def Q_lo11 (Z : State) (A : Nat → Addr) (h0 : Heap) (n0 : Nat) (v : Option Value) (h : Heap) (L : List Loc) : Prop := v = some (.int (1 : Int32)) ∧ L = [] ∧ h = h0
set_option maxRecDepth 65536 in
set_option maxHeartbeats 40000000 in
theorem rm_lo11 (l : Launch) (Z : State) (a0 : Array Value) (hw : ∀ d ∈ tables_1, d.before a0 Z = true) (ws : List Jvm.Cond) (A : Nat → Addr) (h0 : Heap) (n0 : Nat) (Z0 : n0 ≤ h0.size) (hS : ∀ i, i < 13 → Sta Z h0 "com/example/pelt/pelt/Axis" (nmOf i) "Lcom/example/pelt/pelt/Axis;" (.ref (A i))) (hI : ∀ i j, i < 13 → j < 13 → A i = A j → i = j) :
    MetFree l (⟨"com/example/pelt/pelt/Axis", "listsOverlap", "()Z"⟩ : MethodName) (head1 (Jvm.Cond.code (⟨"com/example/pelt/pelt/Axis", "listsOverlap", "()Z"⟩ : MethodName) prog_3_method_15_code 1 (some .boolean) :: ws) ({ frames := 0, cells := 0, slots := 0, locals := 0 } : Room)) (fun a_ U => a_ = #[(.ref (A 11))] ∧ Z.Warmed39 U.vm ∧ U.heap = h0) (fun _ _ _ _ _ => True) (fun _ U o U' => ∃ v L, o = .returned v ∧ Q_lo11 Z A h0 n0 v U'.heap L ∧ FrameEnd U o U' L ({ frames := 0, cells := 0, slots := 0, locals := 0 } : Room).cells ({ frames := 0, cells := 0, slots := 0, locals := 0 } : Room).slots) := by
  refine MetFree.of_bodySF (plainFor_of_name pn_1) hisR ?_
  intro p e s m args below meth c s₁ Bd hml0 hP hK
  obtain ⟨rfl, hZ, hh⟩ := hP
  have hx := Bd.exec
  have hby := Bd.bytes
  have hlk : meth.locks = false := Bd.notSynchronized
  have hml : c.maxLocals = 1 := hml0
  have hown : s.vm.findClass "com/example/pelt/pelt/Axis" = some m.cls := findClass_of_methodNamed Bd.named
  have hnm := (name_of_methodNamed Bd.named Bd.method).1
  have X0 : Stand p l e ({ frames := 0, cells := 0, slots := 0, locals := 0 } : Room) s m #[(.ref (A 11))] below meth c s₁ [] 0 0 := Stand.of_body Bd
  have e0 : s₁.heap = h0 := by rw [← hh, Bd.state]; rfl
  have N0 := Fr.nil n0
  show OGets p e below (OLeaves s (Q_lo11 Z A h0 n0 ) ({ frames := 0, cells := 0, slots := 0, locals := 0 } : Room).cells ({ frames := 0, cells := 0, slots := 0, locals := 0 } : Room).slots) _
  refine OGets.enter (ef_lo11 m (A 11)) ?_
  show OGets p e below _ (s₁.setTop (mkF m 0 #[.val (.ref (A 11))] []))
  refine OGets.step (fun _ => XS.aloadN X0.here hx rfl (hb hby d3m15_0) rfl rfl) ?_
  show OGets p e below _ (s₁.setTop (mkF m 1 #[.val (.ref (A 11))] [(.ref (A 11))]))
  obtain ⟨T290, X290, e290, st290⟩ := getS2 X0 hx hZ hown (host := "") (Or.inl (hw _ (List.mem_of_getElem? (i := 13) rfl))) Via.refl e0 (show Sta Z h0 "com/example/pelt/pelt/Axis" "CHILD" "Lcom/example/pelt/pelt/Axis;" (.ref (A 3)) from hS 3 (by decide)) (g := (mkF m 1 #[.val (.ref (A 11))] [(.ref (A 11))])) rfl (hb hby d3m15_1)
  refine OGets.step st290 ?_
  show OGets p e below _ (T290.setTop (mkF m 4 #[.val (.ref (A 11))] [(.ref (A 3)), (.ref (A 11))]))
  refine OGets.step (fun _ => Jvm.RoadKit.acmp (g := (mkF m 4 #[.val (.ref (A 11))] [(.ref (A 3)), (.ref (A 11))])) X290 hx rfl rfl rfl (pc0 := 4) (pc' := 7) (same := false) rfl (hb hby d3m15_4) rfl (decide_eq_false fun q => absurd (hI 11 3 (by decide) (by decide) (Value.ref.inj q)) (by decide)) (by decide) (by decide)) ?_
  show OGets p e below _ (T290.setTop (mkF m 7 #[.val (.ref (A 11))] []))
  refine OGets.step (fun _ => XS.aloadN X290.here hx rfl (hb hby d3m15_7) rfl rfl) ?_
  show OGets p e below _ (T290.setTop (mkF m 8 #[.val (.ref (A 11))] [(.ref (A 11))]))
  obtain ⟨T291, X291, e291, st291⟩ := getS2 X290 hx hZ hown (host := "") (Or.inl (hw _ (List.mem_of_getElem? (i := 15) rfl))) Via.refl e290 (show Sta Z h0 "com/example/pelt/pelt/Axis" "ATTRIBUTE" "Lcom/example/pelt/pelt/Axis;" (.ref (A 2)) from hS 2 (by decide)) (g := (mkF m 8 #[.val (.ref (A 11))] [(.ref (A 11))])) rfl (hb hby d3m15_8)
  refine OGets.step st291 ?_
  show OGets p e below _ (T291.setTop (mkF m 11 #[.val (.ref (A 11))] [(.ref (A 2)), (.ref (A 11))]))
  refine OGets.step (fun _ => Jvm.RoadKit.acmp (g := (mkF m 11 #[.val (.ref (A 11))] [(.ref (A 2)), (.ref (A 11))])) X291 hx rfl rfl rfl (pc0 := 11) (pc' := 14) (same := false) rfl (hb hby d3m15_11) rfl (decide_eq_false fun q => absurd (hI 11 2 (by decide) (by decide) (Value.ref.inj q)) (by decide)) (by decide) (by decide)) ?_
  show OGets p e below _ (T291.setTop (mkF m 14 #[.val (.ref (A 11))] []))
  refine OGets.step (fun _ => XS.aloadN X291.here hx rfl (hb hby d3m15_14) rfl rfl) ?_
  show OGets p e below _ (T291.setTop (mkF m 15 #[.val (.ref (A 11))] [(.ref (A 11))]))
  obtain ⟨T292, X292, e292, st292⟩ := getS2 X291 hx hZ hown (host := "") (Or.inl (hw _ (List.mem_of_getElem? (i := 17) rfl))) Via.refl e291 (show Sta Z h0 "com/example/pelt/pelt/Axis" "NAMESPACE" "Lcom/example/pelt/pelt/Axis;" (.ref (A 8)) from hS 8 (by decide)) (g := (mkF m 15 #[.val (.ref (A 11))] [(.ref (A 11))])) rfl (hb hby d3m15_15)
  refine OGets.step st292 ?_
  show OGets p e below _ (T292.setTop (mkF m 18 #[.val (.ref (A 11))] [(.ref (A 8)), (.ref (A 11))]))
  refine OGets.step (fun _ => Jvm.RoadKit.acmp (g := (mkF m 18 #[.val (.ref (A 11))] [(.ref (A 8)), (.ref (A 11))])) X292 hx rfl rfl rfl (pc0 := 18) (pc' := 21) (same := false) rfl (hb hby d3m15_18) rfl (decide_eq_false fun q => absurd (hI 11 8 (by decide) (by decide) (Value.ref.inj q)) (by decide)) (by decide) (by decide)) ?_
  show OGets p e below _ (T292.setTop (mkF m 21 #[.val (.ref (A 11))] []))
  refine OGets.step (fun _ => XS.aloadN X292.here hx rfl (hb hby d3m15_21) rfl rfl) ?_
  show OGets p e below _ (T292.setTop (mkF m 22 #[.val (.ref (A 11))] [(.ref (A 11))]))
  obtain ⟨T293, X293, e293, st293⟩ := getS2 X292 hx hZ hown (host := "") (Or.inl (hw _ (List.mem_of_getElem? (i := 19) rfl))) Via.refl e292 (show Sta Z h0 "com/example/pelt/pelt/Axis" "PARENT" "Lcom/example/pelt/pelt/Axis;" (.ref (A 9)) from hS 9 (by decide)) (g := (mkF m 22 #[.val (.ref (A 11))] [(.ref (A 11))])) rfl (hb hby d3m15_22)
  refine OGets.step st293 ?_
  show OGets p e below _ (T293.setTop (mkF m 25 #[.val (.ref (A 11))] [(.ref (A 9)), (.ref (A 11))]))
  refine OGets.step (fun _ => Jvm.RoadKit.acmp (g := (mkF m 25 #[.val (.ref (A 11))] [(.ref (A 9)), (.ref (A 11))])) X293 hx rfl rfl rfl (pc0 := 25) (pc' := 28) (same := false) rfl (hb hby d3m15_25) rfl (decide_eq_false fun q => absurd (hI 11 9 (by decide) (by decide) (Value.ref.inj q)) (by decide)) (by decide) (by decide)) ?_
  show OGets p e below _ (T293.setTop (mkF m 28 #[.val (.ref (A 11))] []))
  refine OGets.step (fun _ => XS.aloadN X293.here hx rfl (hb hby d3m15_28) rfl rfl) ?_
  show OGets p e below _ (T293.setTop (mkF m 29 #[.val (.ref (A 11))] [(.ref (A 11))]))
  obtain ⟨T294, X294, e294, st294⟩ := getS2 X293 hx hZ hown (host := "") (Or.inl (hw _ (List.mem_of_getElem? (i := 21) rfl))) Via.refl e293 (show Sta Z h0 "com/example/pelt/pelt/Axis" "SELF" "Lcom/example/pelt/pelt/Axis;" (.ref (A 12)) from hS 12 (by decide)) (g := (mkF m 29 #[.val (.ref (A 11))] [(.ref (A 11))])) rfl (hb hby d3m15_29)
  refine OGets.step st294 ?_
  show OGets p e below _ (T294.setTop (mkF m 32 #[.val (.ref (A 11))] [(.ref (A 12)), (.ref (A 11))]))
  refine OGets.step (fun _ => Jvm.RoadKit.acmp (g := (mkF m 32 #[.val (.ref (A 11))] [(.ref (A 12)), (.ref (A 11))])) X294 hx rfl rfl rfl (pc0 := 32) (pc' := 35) (same := false) rfl (hb hby d3m15_32) rfl (decide_eq_false fun q => absurd (hI 11 12 (by decide) (by decide) (Value.ref.inj q)) (by decide)) (by decide) (by decide)) ?_
  show OGets p e below _ (T294.setTop (mkF m 35 #[.val (.ref (A 11))] []))
  refine OGets.step (fun _ => XS.iconst X294.here hx rfl (hb hby d3m15_35)) ?_
  show OGets p e below _ (T294.setTop (mkF m 36 #[.val (.ref (A 11))] [(.int (1 : Int32))]))
  refine OGets.step (fun _ => XS.goto X294.here hx rfl (pc0 := 36) (pc' := 40) rfl (hb hby d3m15_36) (by decide) (by decide)) ?_
  show OGets p e below _ (T294.setTop (mkF m 40 #[.val (.ref (A 11))] [(.int (1 : Int32))]))
  refine OGets.retN X294 hx hlk (t := .boolean) Bd.returns (by simp) (hb hby d3m15_40) (Nat.le_of_ble_eq_true rfl) (Nat.le_of_ble_eq_true rfl) ?_
  exact ⟨rfl, rfl, e294⟩
theorem ef_rv11 (m : MethodId) (x0 : Addr) : entryFrame m #[(.ref x0)] 1 = mkF m 0 #[.val (.ref x0)] [] := by first | (simp [entryFrame, mkF, argsToLocals, Value.category]; done) | rfl
def Q_rv11 (Z : State) (A : Nat → Addr) (h0 : Heap) (n0 : Nat) (v : Option Value) (h : Heap) (L : List Loc) : Prop := v = some (.int (1 : Int32)) ∧ L = [] ∧ h = h0
set_option maxRecDepth 65536 in
set_option maxHeartbeats 40000000 in
theorem rm_rv11 (l : Launch) (Z : State) (a0 : Array Value) (hw : ∀ d ∈ tables_1, d.before a0 Z = true) (ws : List Jvm.Cond) (A : Nat → Addr) (h0 : Heap) (n0 : Nat) (Z0 : n0 ≤ h0.size) (hS : ∀ i, i < 13 → Sta Z h0 "com/example/pelt/pelt/Axis" (nmOf i) "Lcom/example/pelt/pelt/Axis;" (.ref (A i))) (hI : ∀ i j, i < 13 → j < 13 → A i = A j → i = j) :
    MetFree l (⟨"com/example/pelt/pelt/Axis", "isReverse", "()Z"⟩ : MethodName) (head1 (Jvm.Cond.code (⟨"com/example/pelt/pelt/Axis", "isReverse", "()Z"⟩ : MethodName) prog_3_method_6_code 1 (some .boolean) :: ws) ({ frames := 0, cells := 0, slots := 0, locals := 0 } : Room)) (fun a_ U => a_ = #[(.ref (A 11))] ∧ Z.Warmed39 U.vm ∧ U.heap = h0) (fun _ _ _ _ _ => True) (fun _ U o U' => ∃ v L, o = .returned v ∧ Q_rv11 Z A h0 n0 v U'.heap L ∧ FrameEnd U o U' L ({ frames := 0, cells := 0, slots := 0, locals := 0 } : Room).cells ({ frames := 0, cells := 0, slots := 0, locals := 0 } : Room).slots) := by
  refine MetFree.of_bodySF (plainFor_of_name pn_1) hisR ?_
  intro p e s m args below meth c s₁ Bd hml0 hP hK
  obtain ⟨rfl, hZ, hh⟩ := hP
  have hx := Bd.exec
  have hby := Bd.bytes
  have hlk : meth.locks = false := Bd.notSynchronized
  have hml : c.maxLocals = 1 := hml0
  have hown : s.vm.findClass "com/example/pelt/pelt/Axis" = some m.cls := findClass_of_methodNamed Bd.named
  have hnm := (name_of_methodNamed Bd.named Bd.method).1
  have X0 : Stand p l e ({ frames := 0, cells := 0, slots := 0, locals := 0 } : Room) s m #[(.ref (A 11))] below meth c s₁ [] 0 0 := Stand.of_body Bd
  have e0 : s₁.heap = h0 := by rw [← hh, Bd.state]; rfl
  have N0 := Fr.nil n0
  show OGets p e below (OLeaves s (Q_rv11 Z A h0 n0 ) ({ frames := 0, cells := 0, slots := 0, locals := 0 } : Room).cells ({ frames := 0, cells := 0, slots := 0, locals := 0 } : Room).slots) _
  refine OGets.enter (ef_rv11 m (A 11)) ?_
  show OGets p e below _ (s₁.setTop (mkF m 0 #[.val (.ref (A 11))] []))
  refine OGets.step (fun _ => XS.aloadN X0.here hx rfl (hb hby d3m6_0) rfl rfl) ?_
  show OGets p e below _ (s₁.setTop (mkF m 1 #[.val (.ref (A 11))] [(.ref (A 11))]))
  obtain ⟨T295, X295, e295, st295⟩ := getS2 X0 hx hZ hown (host := "") (Or.inl (hw _ (List.mem_of_getElem? (i := 28) rfl))) Via.refl e0 (show Sta Z h0 "com/example/pelt/pelt/Axis" "ANCESTOR" "Lcom/example/pelt/pelt/Axis;" (.ref (A 0)) from hS 0 (by decide)) (g := (mkF m 1 #[.val (.ref (A 11))] [(.ref (A 11))])) rfl (hb hby d3m6_1)
  refine OGets.step st295 ?_
  show OGets p e below _ (T295.setTop (mkF m 4 #[.val (.ref (A 11))] [(.ref (A 0)), (.ref (A 11))]))
  refine OGets.step (fun _ => Jvm.RoadKit.acmp (g := (mkF m 4 #[.val (.ref (A 11))] [(.ref (A 0)), (.ref (A 11))])) X295 hx rfl rfl rfl (pc0 := 4) (pc' := 7) (same := false) rfl (hb hby d3m6_4) rfl (decide_eq_false fun q => absurd (hI 11 0 (by decide) (by decide) (Value.ref.inj q)) (by decide)) (by decide) (by decide)) ?_
  show OGets p e below _ (T295.setTop (mkF m 7 #[.val (.ref (A 11))] []))
  refine OGets.step (fun _ => XS.aloadN X295.here hx rfl (hb hby d3m6_7) rfl rfl) ?_
  show OGets p e below _ (T295.setTop (mkF m 8 #[.val (.ref (A 11))] [(.ref (A 11))]))
  obtain ⟨T296, X296, e296, st296⟩ := getS2 X295 hx hZ hown (host := "") (Or.inl (hw _ (List.mem_of_getElem? (i := 35) rfl))) Via.refl e295 (show Sta Z h0 "com/example/pelt/pelt/Axis" "ANCESTOR_OR_SELF" "Lcom/example/pelt/pelt/Axis;" (.ref (A 1)) from hS 1 (by decide)) (g := (mkF m 8 #[.val (.ref (A 11))] [(.ref (A 11))])) rfl (hb hby d3m6_8)
  refine OGets.step st296 ?_
  show OGets p e below _ (T296.setTop (mkF m 11 #[.val (.ref (A 11))] [(.ref (A 1)), (.ref (A 11))]))
  refine OGets.step (fun _ => Jvm.RoadKit.acmp (g := (mkF m 11 #[.val (.ref (A 11))] [(.ref (A 1)), (.ref (A 11))])) X296 hx rfl rfl rfl (pc0 := 11) (pc' := 14) (same := false) rfl (hb hby d3m6_11) rfl (decide_eq_false fun q => absurd (hI 11 1 (by decide) (by decide) (Value.ref.inj q)) (by decide)) (by decide) (by decide)) ?_
  show OGets p e below _ (T296.setTop (mkF m 14 #[.val (.ref (A 11))] []))
  refine OGets.step (fun _ => XS.aloadN X296.here hx rfl (hb hby d3m6_14) rfl rfl) ?_
  show OGets p e below _ (T296.setTop (mkF m 15 #[.val (.ref (A 11))] [(.ref (A 11))]))
  obtain ⟨T297, X297, e297, st297⟩ := getS2 X296 hx hZ hown (host := "") (Or.inl (hw _ (List.mem_of_getElem? (i := 37) rfl))) Via.refl e296 (show Sta Z h0 "com/example/pelt/pelt/Axis" "PRECEDING" "Lcom/example/pelt/pelt/Axis;" (.ref (A 10)) from hS 10 (by decide)) (g := (mkF m 15 #[.val (.ref (A 11))] [(.ref (A 11))])) rfl (hb hby d3m6_15)
  refine OGets.step st297 ?_
  show OGets p e below _ (T297.setTop (mkF m 18 #[.val (.ref (A 11))] [(.ref (A 10)), (.ref (A 11))]))
  refine OGets.step (fun _ => Jvm.RoadKit.acmp (g := (mkF m 18 #[.val (.ref (A 11))] [(.ref (A 10)), (.ref (A 11))])) X297 hx rfl rfl rfl (pc0 := 18) (pc' := 21) (same := false) rfl (hb hby d3m6_18) rfl (decide_eq_false fun q => absurd (hI 11 10 (by decide) (by decide) (Value.ref.inj q)) (by decide)) (by decide) (by decide)) ?_
  show OGets p e below _ (T297.setTop (mkF m 21 #[.val (.ref (A 11))] []))
  refine OGets.step (fun _ => XS.aloadN X297.here hx rfl (hb hby d3m6_21) rfl rfl) ?_
  show OGets p e below _ (T297.setTop (mkF m 22 #[.val (.ref (A 11))] [(.ref (A 11))]))
  obtain ⟨T298, X298, e298, st298⟩ := getS2 X297 hx hZ hown (host := "") (Or.inl (hw _ (List.mem_of_getElem? (i := 39) rfl))) Via.refl e297 (show Sta Z h0 "com/example/pelt/pelt/Axis" "PRECEDING_SIBLING" "Lcom/example/pelt/pelt/Axis;" (.ref (A 11)) from hS 11 (by decide)) (g := (mkF m 22 #[.val (.ref (A 11))] [(.ref (A 11))])) rfl (hb hby d3m6_22)
  refine OGets.step st298 ?_
  show OGets p e below _ (T298.setTop (mkF m 25 #[.val (.ref (A 11))] [(.ref (A 11)), (.ref (A 11))]))
  refine OGets.step (fun _ => Jvm.RoadKit.acmp (g := (mkF m 25 #[.val (.ref (A 11))] [(.ref (A 11)), (.ref (A 11))])) X298 hx rfl rfl rfl (pc0 := 25) (pc' := 28) (same := true) rfl (hb hby d3m6_25) rfl (decide_eq_true rfl) (by decide) (by decide)) ?_
  show OGets p e below _ (T298.setTop (mkF m 28 #[.val (.ref (A 11))] []))
  refine OGets.step (fun _ => XS.iconst X298.here hx rfl (hb hby d3m6_28)) ?_
  show OGets p e below _ (T298.setTop (mkF m 29 #[.val (.ref (A 11))] [(.int (1 : Int32))]))
  refine OGets.step (fun _ => XS.goto X298.here hx rfl (pc0 := 29) (pc' := 33) rfl (hb hby d3m6_29) (by decide) (by decide)) ?_
  show OGets p e below _ (T298.setTop (mkF m 33 #[.val (.ref (A 11))] [(.int (1 : Int32))]))
  refine OGets.retN X298 hx hlk (t := .boolean) Bd.returns (by simp) (hb hby d3m6_33) (Nat.le_of_ble_eq_true rfl) (Nat.le_of_ble_eq_true rfl) ?_
  exact ⟨rfl, rfl, e298⟩
theorem ef_ex11 (m : MethodId) (x0 : Int32) : entryFrame m #[(.int x0)] 5 = mkF m 0 #[.val (.int x0), .unset, .unset, .unset, .unset] [] := by first | (simp [entryFrame, mkF, argsToLocals, Value.category]; done) | rfl
def Q_ex11 (Z : State)  (h0 : Heap) (n0 : Nat) (v : Option Value) (h : Heap) (L : List Loc) : Prop := v = some (.int (1 : Int32)) ∧ L = [] ∧ h = h0
set_option maxRecDepth 65536 in
set_option maxHeartbeats 40000000 in
theorem rm_ex11 (l : Launch) (Z : State) (a0 : Array Value) (hw : ∀ d ∈ tables_1, d.before a0 Z = true) (ws : List Jvm.Cond)  (h0 : Heap) (n0 : Nat) (Z0 : n0 ≤ h0.size) :
    MetFree l (⟨"com/example/pelt/pelt/AxisListsOverlapPinLaw", "expected", "(I)Z"⟩ : MethodName) (head1 (Jvm.Cond.code (⟨"com/example/pelt/pelt/AxisListsOverlapPinLaw", "expected", "(I)Z"⟩ : MethodName) method_3_code 5 (some .boolean) :: ws) ({ frames := 0, cells := 0, slots := 0, locals := 0 } : Room)) (fun a_ U => a_ = #[(.int (11 : Int32))] ∧ Z.Warmed39 U.vm ∧ U.heap = h0) (fun _ _ _ _ _ => True) (fun _ U o U' => ∃ v L, o = .returned v ∧ Q_ex11 Z  h0 n0 v U'.heap L ∧ FrameEnd U o U' L ({ frames := 0, cells := 0, slots := 0, locals := 0 } : Room).cells ({ frames := 0, cells := 0, slots := 0, locals := 0 } : Room).slots) := by
  refine MetFree.of_bodySF (plainFor_of_name pn_0) hisR ?_
  intro p e s m args below meth c s₁ Bd hml0 hP hK
  obtain ⟨rfl, hZ, hh⟩ := hP
  have hx := Bd.exec
  have hby := Bd.bytes
  have hlk : meth.locks = false := Bd.notSynchronized
  have hml : c.maxLocals = 5 := hml0
  have hown : s.vm.findClass "com/example/pelt/pelt/AxisListsOverlapPinLaw" = some m.cls := findClass_of_methodNamed Bd.named
  have hnm := (name_of_methodNamed Bd.named Bd.method).1
  have X0 : Stand p l e ({ frames := 0, cells := 0, slots := 0, locals := 0 } : Room) s m #[(.int (11 : Int32))] below meth c s₁ [] 0 0 := Stand.of_body Bd
  have e0 : s₁.heap = h0 := by rw [← hh, Bd.state]; rfl
  have N0 := Fr.nil n0
  show OGets p e below (OLeaves s (Q_ex11 Z  h0 n0 ) ({ frames := 0, cells := 0, slots := 0, locals := 0 } : Room).cells ({ frames := 0, cells := 0, slots := 0, locals := 0 } : Room).slots) _
  refine OGets.enter (ef_ex11 m (11 : Int32)) ?_
  show OGets p e below _ (s₁.setTop (mkF m 0 #[.val (.int (11 : Int32)), .unset, .unset, .unset, .unset] []))
  refine OGets.step (fun _ => XS.iloadN X0.here hx rfl (hb hby dm3_0) rfl) ?_
  show OGets p e below _ (s₁.setTop (mkF m 1 #[.val (.int (11 : Int32)), .unset, .unset, .unset, .unset] [(.int (11 : Int32))]))
  refine OGets.step (fun _ => XS.ifNo X0.here hx rfl (hb hby dm3_1) rfl ((if0 _ _).trans (feq (by decide : ¬ ((11 : Int32) = (0 : Int32)))).1)) ?_
  show OGets p e below _ (s₁.setTop (mkF m 4 #[.val (.int (11 : Int32)), .unset, .unset, .unset, .unset] []))
  refine OGets.step (fun _ => XS.iloadN X0.here hx rfl (hb hby dm3_4) rfl) ?_
  show OGets p e below _ (s₁.setTop (mkF m 5 #[.val (.int (11 : Int32)), .unset, .unset, .unset, .unset] [(.int (11 : Int32))]))
  refine OGets.step (fun _ => XS.iconst X0.here hx rfl (hb hby dm3_5)) ?_
  show OGets p e below _ (s₁.setTop (mkF m 6 #[.val (.int (11 : Int32)), .unset, .unset, .unset, .unset] [(.int (1 : Int32)), (.int (11 : Int32))]))
  refine OGets.step (fun _ => XS.icmpYes X0.here hx rfl (pc0 := 6) (pc' := 13) rfl (hb hby dm3_6) rfl (feq (by decide : ¬ ((11 : Int32) = (1 : Int32)))).2 (by decide) (by decide)) ?_
  show OGets p e below _ (s₁.setTop (mkF m 13 #[.val (.int (11 : Int32)), .unset, .unset, .unset, .unset] []))
  refine OGets.step (fun _ => XS.iconst X0.here hx rfl (hb hby dm3_13)) ?_
  show OGets p e below _ (s₁.setTop (mkF m 14 #[.val (.int (11 : Int32)), .unset, .unset, .unset, .unset] [(.int (0 : Int32))]))
  refine OGets.step (fun _ => XS.istoreN X0.here hx rfl (hb hby dm3_14) rfl (l' := #[.val (.int (11 : Int32)), .val (.int (0 : Int32)), .unset, .unset, .unset]) rfl) ?_
  show OGets p e below _ (s₁.setTop (mkF m 15 #[.val (.int (11 : Int32)), .val (.int (0 : Int32)), .unset, .unset, .unset] []))
  refine OGets.step (fun _ => XS.iloadN X0.here hx rfl (hb hby dm3_15) rfl) ?_
  show OGets p e below _ (s₁.setTop (mkF m 16 #[.val (.int (11 : Int32)), .val (.int (0 : Int32)), .unset, .unset, .unset] [(.int (11 : Int32))]))
  refine OGets.step (fun _ => XS.iconst X0.here hx rfl (hb hby dm3_16)) ?_
  show OGets p e below _ (s₁.setTop (mkF m 17 #[.val (.int (11 : Int32)), .val (.int (0 : Int32)), .unset, .unset, .unset] [(.int (4 : Int32)), (.int (11 : Int32))]))
  refine OGets.step (fun _ => XS.icmpNo X0.here hx rfl (hb hby dm3_17) rfl (feq (by decide : ¬ ((11 : Int32) = (4 : Int32)))).1) ?_
  show OGets p e below _ (s₁.setTop (mkF m 20 #[.val (.int (11 : Int32)), .val (.int (0 : Int32)), .unset, .unset, .unset] []))
  refine OGets.step (fun _ => XS.iloadN X0.here hx rfl (hb hby dm3_20) rfl) ?_
  show OGets p e below _ (s₁.setTop (mkF m 21 #[.val (.int (11 : Int32)), .val (.int (0 : Int32)), .unset, .unset, .unset] [(.int (11 : Int32))]))
  refine OGets.step (fun _ => XS.iconst X0.here hx rfl (hb hby dm3_21)) ?_
  show OGets p e below _ (s₁.setTop (mkF m 22 #[.val (.int (11 : Int32)), .val (.int (0 : Int32)), .unset, .unset, .unset] [(.int (5 : Int32)), (.int (11 : Int32))]))
  refine OGets.step (fun _ => XS.icmpYes X0.here hx rfl (pc0 := 22) (pc' := 29) rfl (hb hby dm3_22) rfl (feq (by decide : ¬ ((11 : Int32) = (5 : Int32)))).2 (by decide) (by decide)) ?_
  show OGets p e below _ (s₁.setTop (mkF m 29 #[.val (.int (11 : Int32)), .val (.int (0 : Int32)), .unset, .unset, .unset] []))
  refine OGets.step (fun _ => XS.iconst X0.here hx rfl (hb hby dm3_29)) ?_
  show OGets p e below _ (s₁.setTop (mkF m 30 #[.val (.int (11 : Int32)), .val (.int (0 : Int32)), .unset, .unset, .unset] [(.int (0 : Int32))]))
  refine OGets.step (fun _ => XS.istoreN X0.here hx rfl (hb hby dm3_30) rfl (l' := #[.val (.int (11 : Int32)), .val (.int (0 : Int32)), .val (.int (0 : Int32)), .unset, .unset]) rfl) ?_
  show OGets p e below _ (s₁.setTop (mkF m 31 #[.val (.int (11 : Int32)), .val (.int (0 : Int32)), .val (.int (0 : Int32)), .unset, .unset] []))
  refine OGets.step (fun _ => XS.iloadN X0.here hx rfl (hb hby dm3_31) rfl) ?_
  show OGets p e below _ (s₁.setTop (mkF m 32 #[.val (.int (11 : Int32)), .val (.int (0 : Int32)), .val (.int (0 : Int32)), .unset, .unset] [(.int (11 : Int32))]))
  refine OGets.step (fun _ => XS.bipush X0.here hx rfl (hb hby dm3_32)) ?_
  show OGets p e below _ (s₁.setTop (mkF m 34 #[.val (.int (11 : Int32)), .val (.int (0 : Int32)), .val (.int (0 : Int32)), .unset, .unset] [(.int (6 : Int32)), (.int (11 : Int32))]))
  refine OGets.step (fun _ => XS.icmpNo X0.here hx rfl (hb hby dm3_34) rfl (feq (by decide : ¬ ((11 : Int32) = (6 : Int32)))).1) ?_
  show OGets p e below _ (s₁.setTop (mkF m 37 #[.val (.int (11 : Int32)), .val (.int (0 : Int32)), .val (.int (0 : Int32)), .unset, .unset] []))
  refine OGets.step (fun _ => XS.iloadN X0.here hx rfl (hb hby dm3_37) rfl) ?_
  show OGets p e below _ (s₁.setTop (mkF m 38 #[.val (.int (11 : Int32)), .val (.int (0 : Int32)), .val (.int (0 : Int32)), .unset, .unset] [(.int (11 : Int32))]))
  refine OGets.step (fun _ => XS.bipush X0.here hx rfl (hb hby dm3_38)) ?_
  show OGets p e below _ (s₁.setTop (mkF m 40 #[.val (.int (11 : Int32)), .val (.int (0 : Int32)), .val (.int (0 : Int32)), .unset, .unset] [(.int (7 : Int32)), (.int (11 : Int32))]))
  refine OGets.step (fun _ => XS.icmpYes X0.here hx rfl (pc0 := 40) (pc' := 47) rfl (hb hby dm3_40) rfl (feq (by decide : ¬ ((11 : Int32) = (7 : Int32)))).2 (by decide) (by decide)) ?_
  show OGets p e below _ (s₁.setTop (mkF m 47 #[.val (.int (11 : Int32)), .val (.int (0 : Int32)), .val (.int (0 : Int32)), .unset, .unset] []))
  refine OGets.step (fun _ => XS.iconst X0.here hx rfl (hb hby dm3_47)) ?_
  show OGets p e below _ (s₁.setTop (mkF m 48 #[.val (.int (11 : Int32)), .val (.int (0 : Int32)), .val (.int (0 : Int32)), .unset, .unset] [(.int (0 : Int32))]))
  refine OGets.step (fun _ => XS.istoreN X0.here hx rfl (hb hby dm3_48) rfl (l' := #[.val (.int (11 : Int32)), .val (.int (0 : Int32)), .val (.int (0 : Int32)), .val (.int (0 : Int32)), .unset]) rfl) ?_
  show OGets p e below _ (s₁.setTop (mkF m 49 #[.val (.int (11 : Int32)), .val (.int (0 : Int32)), .val (.int (0 : Int32)), .val (.int (0 : Int32)), .unset] []))
  refine OGets.step (fun _ => XS.iloadN X0.here hx rfl (hb hby dm3_49) rfl) ?_
  show OGets p e below _ (s₁.setTop (mkF m 50 #[.val (.int (11 : Int32)), .val (.int (0 : Int32)), .val (.int (0 : Int32)), .val (.int (0 : Int32)), .unset] [(.int (11 : Int32))]))
  refine OGets.step (fun _ => XS.bipush X0.here hx rfl (hb hby dm3_50)) ?_
  show OGets p e below _ (s₁.setTop (mkF m 52 #[.val (.int (11 : Int32)), .val (.int (0 : Int32)), .val (.int (0 : Int32)), .val (.int (0 : Int32)), .unset] [(.int (10 : Int32)), (.int (11 : Int32))]))
  refine OGets.step (fun _ => XS.icmpNo X0.here hx rfl (hb hby dm3_52) rfl (feq (by decide : ¬ ((11 : Int32) = (10 : Int32)))).1) ?_
  show OGets p e below _ (s₁.setTop (mkF m 55 #[.val (.int (11 : Int32)), .val (.int (0 : Int32)), .val (.int (0 : Int32)), .val (.int (0 : Int32)), .unset] []))
  refine OGets.step (fun _ => XS.iloadN X0.here hx rfl (hb hby dm3_55) rfl) ?_
  show OGets p e below _ (s₁.setTop (mkF m 56 #[.val (.int (11 : Int32)), .val (.int (0 : Int32)), .val (.int (0 : Int32)), .val (.int (0 : Int32)), .unset] [(.int (11 : Int32))]))
  refine OGets.step (fun _ => XS.bipush X0.here hx rfl (hb hby dm3_56)) ?_
  show OGets p e below _ (s₁.setTop (mkF m 58 #[.val (.int (11 : Int32)), .val (.int (0 : Int32)), .val (.int (0 : Int32)), .val (.int (0 : Int32)), .unset] [(.int (11 : Int32)), (.int (11 : Int32))]))
  refine OGets.step (fun _ => XS.icmpNo X0.here hx rfl (hb hby dm3_58) rfl (teq (by decide : (11 : Int32) = (11 : Int32))).2) ?_
  show OGets p e below _ (s₁.setTop (mkF m 61 #[.val (.int (11 : Int32)), .val (.int (0 : Int32)), .val (.int (0 : Int32)), .val (.int (0 : Int32)), .unset] []))
  refine OGets.step (fun _ => XS.iconst X0.here hx rfl (hb hby dm3_61)) ?_
  show OGets p e below _ (s₁.setTop (mkF m 62 #[.val (.int (11 : Int32)), .val (.int (0 : Int32)), .val (.int (0 : Int32)), .val (.int (0 : Int32)), .unset] [(.int (1 : Int32))]))
  refine OGets.step (fun _ => XS.goto X0.here hx rfl (pc0 := 62) (pc' := 66) rfl (hb hby dm3_62) (by decide) (by decide)) ?_
  show OGets p e below _ (s₁.setTop (mkF m 66 #[.val (.int (11 : Int32)), .val (.int (0 : Int32)), .val (.int (0 : Int32)), .val (.int (0 : Int32)), .unset] [(.int (1 : Int32))]))
  refine OGets.step (fun _ => XS.istore X0.here hx rfl (hb hby dm3_66) rfl (l' := #[.val (.int (11 : Int32)), .val (.int (0 : Int32)), .val (.int (0 : Int32)), .val (.int (0 : Int32)), .val (.int (1 : Int32))]) rfl) ?_
  show OGets p e below _ (s₁.setTop (mkF m 68 #[.val (.int (11 : Int32)), .val (.int (0 : Int32)), .val (.int (0 : Int32)), .val (.int (0 : Int32)), .val (.int (1 : Int32))] []))
  refine OGets.step (fun _ => XS.iloadN X0.here hx rfl (hb hby dm3_68) rfl) ?_
  show OGets p e below _ (s₁.setTop (mkF m 69 #[.val (.int (11 : Int32)), .val (.int (0 : Int32)), .val (.int (0 : Int32)), .val (.int (0 : Int32)), .val (.int (1 : Int32))] [(.int (0 : Int32))]))
  refine OGets.step (fun _ => XS.ifNo X0.here hx rfl (hb hby dm3_69) rfl ((if0 _ _).trans (teq (by decide : (0 : Int32) = (0 : Int32))).2)) ?_
  show OGets p e below _ (s₁.setTop (mkF m 72 #[.val (.int (11 : Int32)), .val (.int (0 : Int32)), .val (.int (0 : Int32)), .val (.int (0 : Int32)), .val (.int (1 : Int32))] []))
  refine OGets.step (fun _ => XS.iloadN X0.here hx rfl (hb hby dm3_72) rfl) ?_
  show OGets p e below _ (s₁.setTop (mkF m 73 #[.val (.int (11 : Int32)), .val (.int (0 : Int32)), .val (.int (0 : Int32)), .val (.int (0 : Int32)), .val (.int (1 : Int32))] [(.int (0 : Int32))]))
  refine OGets.step (fun _ => XS.ifNo X0.here hx rfl (hb hby dm3_73) rfl ((if0 _ _).trans (teq (by decide : (0 : Int32) = (0 : Int32))).2)) ?_
  show OGets p e below _ (s₁.setTop (mkF m 76 #[.val (.int (11 : Int32)), .val (.int (0 : Int32)), .val (.int (0 : Int32)), .val (.int (0 : Int32)), .val (.int (1 : Int32))] []))
  refine OGets.step (fun _ => XS.iloadN X0.here hx rfl (hb hby dm3_76) rfl) ?_
  show OGets p e below _ (s₁.setTop (mkF m 77 #[.val (.int (11 : Int32)), .val (.int (0 : Int32)), .val (.int (0 : Int32)), .val (.int (0 : Int32)), .val (.int (1 : Int32))] [(.int (0 : Int32))]))
  refine OGets.step (fun _ => XS.ifNo X0.here hx rfl (hb hby dm3_77) rfl ((if0 _ _).trans (teq (by decide : (0 : Int32) = (0 : Int32))).2)) ?_
  show OGets p e below _ (s₁.setTop (mkF m 80 #[.val (.int (11 : Int32)), .val (.int (0 : Int32)), .val (.int (0 : Int32)), .val (.int (0 : Int32)), .val (.int (1 : Int32))] []))
  refine OGets.step (fun _ => XS.iload X0.here hx rfl (hb hby dm3_80) rfl) ?_
  show OGets p e below _ (s₁.setTop (mkF m 82 #[.val (.int (11 : Int32)), .val (.int (0 : Int32)), .val (.int (0 : Int32)), .val (.int (0 : Int32)), .val (.int (1 : Int32))] [(.int (1 : Int32))]))
  refine OGets.step (fun _ => XS.ifNo X0.here hx rfl (hb hby dm3_82) rfl ((if0 _ _).trans (feq (by decide : ¬ ((1 : Int32) = (0 : Int32)))).1)) ?_
  show OGets p e below _ (s₁.setTop (mkF m 85 #[.val (.int (11 : Int32)), .val (.int (0 : Int32)), .val (.int (0 : Int32)), .val (.int (0 : Int32)), .val (.int (1 : Int32))] []))
  refine OGets.step (fun _ => XS.iconst X0.here hx rfl (hb hby dm3_85)) ?_
  show OGets p e below _ (s₁.setTop (mkF m 86 #[.val (.int (11 : Int32)), .val (.int (0 : Int32)), .val (.int (0 : Int32)), .val (.int (0 : Int32)), .val (.int (1 : Int32))] [(.int (1 : Int32))]))
  refine OGets.step (fun _ => XS.goto X0.here hx rfl (pc0 := 86) (pc' := 90) rfl (hb hby dm3_86) (by decide) (by decide)) ?_
  show OGets p e below _ (s₁.setTop (mkF m 90 #[.val (.int (11 : Int32)), .val (.int (0 : Int32)), .val (.int (0 : Int32)), .val (.int (0 : Int32)), .val (.int (1 : Int32))] [(.int (1 : Int32))]))
  refine OGets.retN X0 hx hlk (t := .boolean) Bd.returns (by simp) (hb hby dm3_90) (Nat.le_of_ble_eq_true rfl) (Nat.le_of_ble_eq_true rfl) ?_
  exact ⟨rfl, rfl, e0⟩
theorem dm2_113 : decode method_2_code 113 = .ok (.getstatic 46, 3) := by decide +kernel
theorem dm2_116 : decode method_2_code 116 = .ok (.areturn, 1) := by decide +kernel
theorem ef_pk12 (m : MethodId) (x0 : Int32) : entryFrame m #[(.int x0)] 1 = mkF m 0 #[.val (.int x0)] [] := by first | (simp [entryFrame, mkF, argsToLocals, Value.category]; done) | rfl
def Q_pk12 (Z : State) (A : Nat → Addr) (h0 : Heap) (n0 : Nat) (v : Option Value) (h : Heap) (L : List Loc) : Prop := v = some (.ref (A 12)) ∧ L = [] ∧ h = h0
set_option maxRecDepth 65536 in
set_option maxHeartbeats 40000000 in
theorem rm_pk12 (l : Launch) (Z : State) (a0 : Array Value) (hw : ∀ d ∈ tables_1, d.before a0 Z = true) (ws : List Jvm.Cond) (A : Nat → Addr) (h0 : Heap) (n0 : Nat) (Z0 : n0 ≤ h0.size) (hS : ∀ i, i < 13 → Sta Z h0 "com/example/pelt/pelt/Axis" (nmOf i) "Lcom/example/pelt/pelt/Axis;" (.ref (A i))) (hI : ∀ i j, i < 13 → j < 13 → A i = A j → i = j) :
    MetFree l (⟨"com/example/pelt/pelt/AxisListsOverlapPinLaw", "pick", "(I)Lcom/example/pelt/pelt/Axis;"⟩ : MethodName) (head1 (Jvm.Cond.code (⟨"com/example/pelt/pelt/AxisListsOverlapPinLaw", "pick", "(I)Lcom/example/pelt/pelt/Axis;"⟩ : MethodName) method_2_code 1 (some (.object "com/example/pelt/pelt/Axis")) :: ws) ({ frames := 0, cells := 0, slots := 0, locals := 0 } : Room)) (fun a_ U => a_ = #[(.int (12 : Int32))] ∧ Z.Warmed39 U.vm ∧ U.heap = h0) (fun _ _ _ _ _ => True) (fun _ U o U' => ∃ v L, o = .returned v ∧ Q_pk12 Z A h0 n0 v U'.heap L ∧ FrameEnd U o U' L ({ frames := 0, cells := 0, slots := 0, locals := 0 } : Room).cells ({ frames := 0, cells := 0, slots := 0, locals := 0 } : Room).slots) := by
  refine MetFree.of_bodySF (plainFor_of_name pn_0) hisR ?_
  intro p e s m args below meth c s₁ Bd hml0 hP hK
  obtain ⟨rfl, hZ, hh⟩ := hP
  have hx := Bd.exec
  have hby := Bd.bytes
  have hlk : meth.locks = false := Bd.notSynchronized
  have hml : c.maxLocals = 1 := hml0
  have hown : s.vm.findClass "com/example/pelt/pelt/AxisListsOverlapPinLaw" = some m.cls := findClass_of_methodNamed Bd.named
  have hnm := (name_of_methodNamed Bd.named Bd.method).1
  have X0 : Stand p l e ({ frames := 0, cells := 0, slots := 0, locals := 0 } : Room) s m #[(.int (12 : Int32))] below meth c s₁ [] 0 0 := Stand.of_body Bd
  have e0 : s₁.heap = h0 := by rw [← hh, Bd.state]; rfl
  have N0 := Fr.nil n0
  show OGets p e below (OLeaves s (Q_pk12 Z A h0 n0 ) ({ frames := 0, cells := 0, slots := 0, locals := 0 } : Room).cells ({ frames := 0, cells := 0, slots := 0, locals := 0 } : Room).slots) _
  refine OGets.enter (ef_pk12 m (12 : Int32)) ?_
  show OGets p e below _ (s₁.setTop (mkF m 0 #[.val (.int (12 : Int32))] []))
  refine OGets.step (fun _ => XS.iloadN X0.here hx rfl (hb hby dm2_0) rfl) ?_
  show OGets p e below _ (s₁.setTop (mkF m 1 #[.val (.int (12 : Int32))] [(.int (12 : Int32))]))
  refine OGets.step (fun _ => XS.ifYes X0.here hx rfl (pc0 := 1) (pc' := 8) rfl (hb hby dm2_1) rfl ((if0 _ _).trans (feq (by decide : ¬ ((12 : Int32) = (0 : Int32)))).2) (by decide) (by decide)) ?_
  show OGets p e below _ (s₁.setTop (mkF m 8 #[.val (.int (12 : Int32))] []))
  refine OGets.step (fun _ => XS.iloadN X0.here hx rfl (hb hby dm2_8) rfl) ?_
  show OGets p e below _ (s₁.setTop (mkF m 9 #[.val (.int (12 : Int32))] [(.int (12 : Int32))]))
  refine OGets.step (fun _ => XS.iconst X0.here hx rfl (hb hby dm2_9)) ?_
  show OGets p e below _ (s₁.setTop (mkF m 10 #[.val (.int (12 : Int32))] [(.int (1 : Int32)), (.int (12 : Int32))]))
  refine OGets.step (fun _ => XS.icmpYes X0.here hx rfl (pc0 := 10) (pc' := 17) rfl (hb hby dm2_10) rfl (feq (by decide : ¬ ((12 : Int32) = (1 : Int32)))).2 (by decide) (by decide)) ?_
  show OGets p e below _ (s₁.setTop (mkF m 17 #[.val (.int (12 : Int32))] []))
  refine OGets.step (fun _ => XS.iloadN X0.here hx rfl (hb hby dm2_17) rfl) ?_
  show OGets p e below _ (s₁.setTop (mkF m 18 #[.val (.int (12 : Int32))] [(.int (12 : Int32))]))
  refine OGets.step (fun _ => XS.iconst X0.here hx rfl (hb hby dm2_18)) ?_
  show OGets p e below _ (s₁.setTop (mkF m 19 #[.val (.int (12 : Int32))] [(.int (2 : Int32)), (.int (12 : Int32))]))
  refine OGets.step (fun _ => XS.icmpYes X0.here hx rfl (pc0 := 19) (pc' := 26) rfl (hb hby dm2_19) rfl (feq (by decide : ¬ ((12 : Int32) = (2 : Int32)))).2 (by decide) (by decide)) ?_
  show OGets p e below _ (s₁.setTop (mkF m 26 #[.val (.int (12 : Int32))] []))
  refine OGets.step (fun _ => XS.iloadN X0.here hx rfl (hb hby dm2_26) rfl) ?_
  show OGets p e below _ (s₁.setTop (mkF m 27 #[.val (.int (12 : Int32))] [(.int (12 : Int32))]))
  refine OGets.step (fun _ => XS.iconst X0.here hx rfl (hb hby dm2_27)) ?_
  show OGets p e below _ (s₁.setTop (mkF m 28 #[.val (.int (12 : Int32))] [(.int (3 : Int32)), (.int (12 : Int32))]))
  refine OGets.step (fun _ => XS.icmpYes X0.here hx rfl (pc0 := 28) (pc' := 35) rfl (hb hby dm2_28) rfl (feq (by decide : ¬ ((12 : Int32) = (3 : Int32)))).2 (by decide) (by decide)) ?_
  show OGets p e below _ (s₁.setTop (mkF m 35 #[.val (.int (12 : Int32))] []))
  refine OGets.step (fun _ => XS.iloadN X0.here hx rfl (hb hby dm2_35) rfl) ?_
  show OGets p e below _ (s₁.setTop (mkF m 36 #[.val (.int (12 : Int32))] [(.int (12 : Int32))]))
  refine OGets.step (fun _ => XS.iconst X0.here hx rfl (hb hby dm2_36)) ?_
  show OGets p e below _ (s₁.setTop (mkF m 37 #[.val (.int (12 : Int32))] [(.int (4 : Int32)), (.int (12 : Int32))]))
  refine OGets.step (fun _ => XS.icmpYes X0.here hx rfl (pc0 := 37) (pc' := 44) rfl (hb hby dm2_37) rfl (feq (by decide : ¬ ((12 : Int32) = (4 : Int32)))).2 (by decide) (by decide)) ?_
  show OGets p e below _ (s₁.setTop (mkF m 44 #[.val (.int (12 : Int32))] []))
  refine OGets.step (fun _ => XS.iloadN X0.here hx rfl (hb hby dm2_44) rfl) ?_
  show OGets p e below _ (s₁.setTop (mkF m 45 #[.val (.int (12 : Int32))] [(.int (12 : Int32))]))
  refine OGets.step (fun _ => XS.iconst X0.here hx rfl (hb hby dm2_45)) ?_
  show OGets p e below _ (s₁.setTop (mkF m 46 #[.val (.int (12 : Int32))] [(.int (5 : Int32)), (.int (12 : Int32))]))
  refine OGets.step (fun _ => XS.icmpYes X0.here hx rfl (pc0 := 46) (pc' := 53) rfl (hb hby dm2_46) rfl (feq (by decide : ¬ ((12 : Int32) = (5 : Int32)))).2 (by decide) (by decide)) ?_
  show OGets p e below _ (s₁.setTop (mkF m 53 #[.val (.int (12 : Int32))] []))
  refine OGets.step (fun _ => XS.iloadN X0.here hx rfl (hb hby dm2_53) rfl) ?_
  show OGets p e below _ (s₁.setTop (mkF m 54 #[.val (.int (12 : Int32))] [(.int (12 : Int32))]))
  refine OGets.step (fun _ => XS.bipush X0.here hx rfl (hb hby dm2_54)) ?_
  show OGets p e below _ (s₁.setTop (mkF m 56 #[.val (.int (12 : Int32))] [(.int (6 : Int32)), (.int (12 : Int32))]))
  refine OGets.step (fun _ => XS.icmpYes X0.here hx rfl (pc0 := 56) (pc' := 63) rfl (hb hby dm2_56) rfl (feq (by decide : ¬ ((12 : Int32) = (6 : Int32)))).2 (by decide) (by decide)) ?_
  show OGets p e below _ (s₁.setTop (mkF m 63 #[.val (.int (12 : Int32))] []))
  refine OGets.step (fun _ => XS.iloadN X0.here hx rfl (hb hby dm2_63) rfl) ?_
  show OGets p e below _ (s₁.setTop (mkF m 64 #[.val (.int (12 : Int32))] [(.int (12 : Int32))]))
  refine OGets.step (fun _ => XS.bipush X0.here hx rfl (hb hby dm2_64)) ?_
  show OGets p e below _ (s₁.setTop (mkF m 66 #[.val (.int (12 : Int32))] [(.int (7 : Int32)), (.int (12 : Int32))]))
  refine OGets.step (fun _ => XS.icmpYes X0.here hx rfl (pc0 := 66) (pc' := 73) rfl (hb hby dm2_66) rfl (feq (by decide : ¬ ((12 : Int32) = (7 : Int32)))).2 (by decide) (by decide)) ?_
  show OGets p e below _ (s₁.setTop (mkF m 73 #[.val (.int (12 : Int32))] []))
  refine OGets.step (fun _ => XS.iloadN X0.here hx rfl (hb hby dm2_73) rfl) ?_
  show OGets p e below _ (s₁.setTop (mkF m 74 #[.val (.int (12 : Int32))] [(.int (12 : Int32))]))
  refine OGets.step (fun _ => XS.bipush X0.here hx rfl (hb hby dm2_74)) ?_
  show OGets p e below _ (s₁.setTop (mkF m 76 #[.val (.int (12 : Int32))] [(.int (8 : Int32)), (.int (12 : Int32))]))
  refine OGets.step (fun _ => XS.icmpYes X0.here hx rfl (pc0 := 76) (pc' := 83) rfl (hb hby dm2_76) rfl (feq (by decide : ¬ ((12 : Int32) = (8 : Int32)))).2 (by decide) (by decide)) ?_
  show OGets p e below _ (s₁.setTop (mkF m 83 #[.val (.int (12 : Int32))] []))
  refine OGets.step (fun _ => XS.iloadN X0.here hx rfl (hb hby dm2_83) rfl) ?_
  show OGets p e below _ (s₁.setTop (mkF m 84 #[.val (.int (12 : Int32))] [(.int (12 : Int32))]))
  refine OGets.step (fun _ => XS.bipush X0.here hx rfl (hb hby dm2_84)) ?_
  show OGets p e below _ (s₁.setTop (mkF m 86 #[.val (.int (12 : Int32))] [(.int (9 : Int32)), (.int (12 : Int32))]))
  refine OGets.step (fun _ => XS.icmpYes X0.here hx rfl (pc0 := 86) (pc' := 93) rfl (hb hby dm2_86) rfl (feq (by decide : ¬ ((12 : Int32) = (9 : Int32)))).2 (by decide) (by decide)) ?_
  show OGets p e below _ (s₁.setTop (mkF m 93 #[.val (.int (12 : Int32))] []))
  refine OGets.step (fun _ => XS.iloadN X0.here hx rfl (hb hby dm2_93) rfl) ?_
  show OGets p e below _ (s₁.setTop (mkF m 94 #[.val (.int (12 : Int32))] [(.int (12 : Int32))]))
  refine OGets.step (fun _ => XS.bipush X0.here hx rfl (hb hby dm2_94)) ?_
  show OGets p e below _ (s₁.setTop (mkF m 96 #[.val (.int (12 : Int32))] [(.int (10 : Int32)), (.int (12 : Int32))]))
  refine OGets.step (fun _ => XS.icmpYes X0.here hx rfl (pc0 := 96) (pc' := 103) rfl (hb hby dm2_96) rfl (feq (by decide : ¬ ((12 : Int32) = (10 : Int32)))).2 (by decide) (by decide)) ?_
  show OGets p e below _ (s₁.setTop (mkF m 103 #[.val (.int (12 : Int32))] []))
  refine OGets.step (fun _ => XS.iloadN X0.here hx rfl (hb hby dm2_103) rfl) ?_
  show OGets p e below _ (s₁.setTop (mkF m 104 #[.val (.int (12 : Int32))] [(.int (12 : Int32))]))
  refine OGets.step (fun _ => XS.bipush X0.here hx rfl (hb hby dm2_104)) ?_
  show OGets p e below _ (s₁.setTop (mkF m 106 #[.val (.int (12 : Int32))] [(.int (11 : Int32)), (.int (12 : Int32))]))
  refine OGets.step (fun _ => XS.icmpYes X0.here hx rfl (pc0 := 106) (pc' := 113) rfl (hb hby dm2_106) rfl (feq (by decide : ¬ ((12 : Int32) = (11 : Int32)))).2 (by decide) (by decide)) ?_
  show OGets p e below _ (s₁.setTop (mkF m 113 #[.val (.int (12 : Int32))] []))
  obtain ⟨T323, X323, e323, st323⟩ := getS2 X0 hx hZ hown (host := "") (Or.inl (hw _ (List.mem_of_getElem? (i := 71) rfl))) Via.refl e0 (show Sta Z h0 "com/example/pelt/pelt/Axis" "SELF" "Lcom/example/pelt/pelt/Axis;" (.ref (A 12)) from hS 12 (by decide)) (g := (mkF m 113 #[.val (.int (12 : Int32))] [])) rfl (hb hby dm2_113)
  refine OGets.step st323 ?_
  show OGets p e below _ (T323.setTop (mkF m 116 #[.val (.int (12 : Int32))] [(.ref (A 12))]))
  refine OGets.retA X323 hx hlk (t := (.object "com/example/pelt/pelt/Axis")) Bd.returns rfl rfl rfl (hb hby dm2_116) (Nat.le_of_ble_eq_true rfl) (Nat.le_of_ble_eq_true rfl) ?_
  exact ⟨rfl, rfl, e323⟩
theorem ef_lo12 (m : MethodId) (x0 : Addr) : entryFrame m #[(.ref x0)] 1 = mkF m 0 #[.val (.ref x0)] [] := by first | (simp [entryFrame, mkF, argsToLocals, Value.category]; done) | rfl
def Q_lo12 (Z : State) (A : Nat → Addr) (h0 : Heap) (n0 : Nat) (v : Option Value) (h : Heap) (L : List Loc) : Prop := v = some (.int (0 : Int32)) ∧ L = [] ∧ h = h0
set_option maxRecDepth 65536 in
set_option maxHeartbeats 40000000 in
theorem rm_lo12 (l : Launch) (Z : State) (a0 : Array Value) (hw : ∀ d ∈ tables_1, d.before a0 Z = true) (ws : List Jvm.Cond) (A : Nat → Addr) (h0 : Heap) (n0 : Nat) (Z0 : n0 ≤ h0.size) (hS : ∀ i, i < 13 → Sta Z h0 "com/example/pelt/pelt/Axis" (nmOf i) "Lcom/example/pelt/pelt/Axis;" (.ref (A i))) (hI : ∀ i j, i < 13 → j < 13 → A i = A j → i = j) :
    MetFree l (⟨"com/example/pelt/pelt/Axis", "listsOverlap", "()Z"⟩ : MethodName) (head1 (Jvm.Cond.code (⟨"com/example/pelt/pelt/Axis", "listsOverlap", "()Z"⟩ : MethodName) prog_3_method_15_code 1 (some .boolean) :: ws) ({ frames := 0, cells := 0, slots := 0, locals := 0 } : Room)) (fun a_ U => a_ = #[(.ref (A 12))] ∧ Z.Warmed39 U.vm ∧ U.heap = h0) (fun _ _ _ _ _ => True) (fun _ U o U' => ∃ v L, o = .returned v ∧ Q_lo12 Z A h0 n0 v U'.heap L ∧ FrameEnd U o U' L ({ frames := 0, cells := 0, slots := 0, locals := 0 } : Room).cells ({ frames := 0, cells := 0, slots := 0, locals := 0 } : Room).slots) := by
  refine MetFree.of_bodySF (plainFor_of_name pn_1) hisR ?_
  intro p e s m args below meth c s₁ Bd hml0 hP hK
  obtain ⟨rfl, hZ, hh⟩ := hP
  have hx := Bd.exec
  have hby := Bd.bytes
  have hlk : meth.locks = false := Bd.notSynchronized
  have hml : c.maxLocals = 1 := hml0
  have hown : s.vm.findClass "com/example/pelt/pelt/Axis" = some m.cls := findClass_of_methodNamed Bd.named
  have hnm := (name_of_methodNamed Bd.named Bd.method).1
  have X0 : Stand p l e ({ frames := 0, cells := 0, slots := 0, locals := 0 } : Room) s m #[(.ref (A 12))] below meth c s₁ [] 0 0 := Stand.of_body Bd
  have e0 : s₁.heap = h0 := by rw [← hh, Bd.state]; rfl
  have N0 := Fr.nil n0
  show OGets p e below (OLeaves s (Q_lo12 Z A h0 n0 ) ({ frames := 0, cells := 0, slots := 0, locals := 0 } : Room).cells ({ frames := 0, cells := 0, slots := 0, locals := 0 } : Room).slots) _
  refine OGets.enter (ef_lo12 m (A 12)) ?_
  show OGets p e below _ (s₁.setTop (mkF m 0 #[.val (.ref (A 12))] []))
  refine OGets.step (fun _ => XS.aloadN X0.here hx rfl (hb hby d3m15_0) rfl rfl) ?_
  show OGets p e below _ (s₁.setTop (mkF m 1 #[.val (.ref (A 12))] [(.ref (A 12))]))
  obtain ⟨T324, X324, e324, st324⟩ := getS2 X0 hx hZ hown (host := "") (Or.inl (hw _ (List.mem_of_getElem? (i := 13) rfl))) Via.refl e0 (show Sta Z h0 "com/example/pelt/pelt/Axis" "CHILD" "Lcom/example/pelt/pelt/Axis;" (.ref (A 3)) from hS 3 (by decide)) (g := (mkF m 1 #[.val (.ref (A 12))] [(.ref (A 12))])) rfl (hb hby d3m15_1)
  refine OGets.step st324 ?_
  show OGets p e below _ (T324.setTop (mkF m 4 #[.val (.ref (A 12))] [(.ref (A 3)), (.ref (A 12))]))
  refine OGets.step (fun _ => Jvm.RoadKit.acmp (g := (mkF m 4 #[.val (.ref (A 12))] [(.ref (A 3)), (.ref (A 12))])) X324 hx rfl rfl rfl (pc0 := 4) (pc' := 7) (same := false) rfl (hb hby d3m15_4) rfl (decide_eq_false fun q => absurd (hI 12 3 (by decide) (by decide) (Value.ref.inj q)) (by decide)) (by decide) (by decide)) ?_
  show OGets p e below _ (T324.setTop (mkF m 7 #[.val (.ref (A 12))] []))
  refine OGets.step (fun _ => XS.aloadN X324.here hx rfl (hb hby d3m15_7) rfl rfl) ?_
  show OGets p e below _ (T324.setTop (mkF m 8 #[.val (.ref (A 12))] [(.ref (A 12))]))
  obtain ⟨T325, X325, e325, st325⟩ := getS2 X324 hx hZ hown (host := "") (Or.inl (hw _ (List.mem_of_getElem? (i := 15) rfl))) Via.refl e324 (show Sta Z h0 "com/example/pelt/pelt/Axis" "ATTRIBUTE" "Lcom/example/pelt/pelt/Axis;" (.ref (A 2)) from hS 2 (by decide)) (g := (mkF m 8 #[.val (.ref (A 12))] [(.ref (A 12))])) rfl (hb hby d3m15_8)
  refine OGets.step st325 ?_
  show OGets p e below _ (T325.setTop (mkF m 11 #[.val (.ref (A 12))] [(.ref (A 2)), (.ref (A 12))]))
  refine OGets.step (fun _ => Jvm.RoadKit.acmp (g := (mkF m 11 #[.val (.ref (A 12))] [(.ref (A 2)), (.ref (A 12))])) X325 hx rfl rfl rfl (pc0 := 11) (pc' := 14) (same := false) rfl (hb hby d3m15_11) rfl (decide_eq_false fun q => absurd (hI 12 2 (by decide) (by decide) (Value.ref.inj q)) (by decide)) (by decide) (by decide)) ?_
  show OGets p e below _ (T325.setTop (mkF m 14 #[.val (.ref (A 12))] []))
  refine OGets.step (fun _ => XS.aloadN X325.here hx rfl (hb hby d3m15_14) rfl rfl) ?_
  show OGets p e below _ (T325.setTop (mkF m 15 #[.val (.ref (A 12))] [(.ref (A 12))]))
  obtain ⟨T326, X326, e326, st326⟩ := getS2 X325 hx hZ hown (host := "") (Or.inl (hw _ (List.mem_of_getElem? (i := 17) rfl))) Via.refl e325 (show Sta Z h0 "com/example/pelt/pelt/Axis" "NAMESPACE" "Lcom/example/pelt/pelt/Axis;" (.ref (A 8)) from hS 8 (by decide)) (g := (mkF m 15 #[.val (.ref (A 12))] [(.ref (A 12))])) rfl (hb hby d3m15_15)
  refine OGets.step st326 ?_
  show OGets p e below _ (T326.setTop (mkF m 18 #[.val (.ref (A 12))] [(.ref (A 8)), (.ref (A 12))]))
  refine OGets.step (fun _ => Jvm.RoadKit.acmp (g := (mkF m 18 #[.val (.ref (A 12))] [(.ref (A 8)), (.ref (A 12))])) X326 hx rfl rfl rfl (pc0 := 18) (pc' := 21) (same := false) rfl (hb hby d3m15_18) rfl (decide_eq_false fun q => absurd (hI 12 8 (by decide) (by decide) (Value.ref.inj q)) (by decide)) (by decide) (by decide)) ?_
  show OGets p e below _ (T326.setTop (mkF m 21 #[.val (.ref (A 12))] []))
  refine OGets.step (fun _ => XS.aloadN X326.here hx rfl (hb hby d3m15_21) rfl rfl) ?_
  show OGets p e below _ (T326.setTop (mkF m 22 #[.val (.ref (A 12))] [(.ref (A 12))]))
  obtain ⟨T327, X327, e327, st327⟩ := getS2 X326 hx hZ hown (host := "") (Or.inl (hw _ (List.mem_of_getElem? (i := 19) rfl))) Via.refl e326 (show Sta Z h0 "com/example/pelt/pelt/Axis" "PARENT" "Lcom/example/pelt/pelt/Axis;" (.ref (A 9)) from hS 9 (by decide)) (g := (mkF m 22 #[.val (.ref (A 12))] [(.ref (A 12))])) rfl (hb hby d3m15_22)
  refine OGets.step st327 ?_
  show OGets p e below _ (T327.setTop (mkF m 25 #[.val (.ref (A 12))] [(.ref (A 9)), (.ref (A 12))]))
  refine OGets.step (fun _ => Jvm.RoadKit.acmp (g := (mkF m 25 #[.val (.ref (A 12))] [(.ref (A 9)), (.ref (A 12))])) X327 hx rfl rfl rfl (pc0 := 25) (pc' := 28) (same := false) rfl (hb hby d3m15_25) rfl (decide_eq_false fun q => absurd (hI 12 9 (by decide) (by decide) (Value.ref.inj q)) (by decide)) (by decide) (by decide)) ?_
  show OGets p e below _ (T327.setTop (mkF m 28 #[.val (.ref (A 12))] []))
  refine OGets.step (fun _ => XS.aloadN X327.here hx rfl (hb hby d3m15_28) rfl rfl) ?_
  show OGets p e below _ (T327.setTop (mkF m 29 #[.val (.ref (A 12))] [(.ref (A 12))]))
  obtain ⟨T328, X328, e328, st328⟩ := getS2 X327 hx hZ hown (host := "") (Or.inl (hw _ (List.mem_of_getElem? (i := 21) rfl))) Via.refl e327 (show Sta Z h0 "com/example/pelt/pelt/Axis" "SELF" "Lcom/example/pelt/pelt/Axis;" (.ref (A 12)) from hS 12 (by decide)) (g := (mkF m 29 #[.val (.ref (A 12))] [(.ref (A 12))])) rfl (hb hby d3m15_29)
  refine OGets.step st328 ?_
  show OGets p e below _ (T328.setTop (mkF m 32 #[.val (.ref (A 12))] [(.ref (A 12)), (.ref (A 12))]))
  refine OGets.step (fun _ => Jvm.RoadKit.acmp (g := (mkF m 32 #[.val (.ref (A 12))] [(.ref (A 12)), (.ref (A 12))])) X328 hx rfl rfl rfl (pc0 := 32) (pc' := 39) (same := true) rfl (hb hby d3m15_32) rfl (decide_eq_true rfl) (by decide) (by decide)) ?_
  show OGets p e below _ (T328.setTop (mkF m 39 #[.val (.ref (A 12))] []))
  refine OGets.step (fun _ => XS.iconst X328.here hx rfl (hb hby d3m15_39)) ?_
  show OGets p e below _ (T328.setTop (mkF m 40 #[.val (.ref (A 12))] [(.int (0 : Int32))]))
  refine OGets.retN X328 hx hlk (t := .boolean) Bd.returns (by simp) (hb hby d3m15_40) (Nat.le_of_ble_eq_true rfl) (Nat.le_of_ble_eq_true rfl) ?_
  exact ⟨rfl, rfl, e328⟩
theorem ef_rv12 (m : MethodId) (x0 : Addr) : entryFrame m #[(.ref x0)] 1 = mkF m 0 #[.val (.ref x0)] [] := by first | (simp [entryFrame, mkF, argsToLocals, Value.category]; done) | rfl
def Q_rv12 (Z : State) (A : Nat → Addr) (h0 : Heap) (n0 : Nat) (v : Option Value) (h : Heap) (L : List Loc) : Prop := v = some (.int (0 : Int32)) ∧ L = [] ∧ h = h0
set_option maxRecDepth 65536 in
set_option maxHeartbeats 40000000 in
theorem rm_rv12 (l : Launch) (Z : State) (a0 : Array Value) (hw : ∀ d ∈ tables_1, d.before a0 Z = true) (ws : List Jvm.Cond) (A : Nat → Addr) (h0 : Heap) (n0 : Nat) (Z0 : n0 ≤ h0.size) (hS : ∀ i, i < 13 → Sta Z h0 "com/example/pelt/pelt/Axis" (nmOf i) "Lcom/example/pelt/pelt/Axis;" (.ref (A i))) (hI : ∀ i j, i < 13 → j < 13 → A i = A j → i = j) :
    MetFree l (⟨"com/example/pelt/pelt/Axis", "isReverse", "()Z"⟩ : MethodName) (head1 (Jvm.Cond.code (⟨"com/example/pelt/pelt/Axis", "isReverse", "()Z"⟩ : MethodName) prog_3_method_6_code 1 (some .boolean) :: ws) ({ frames := 0, cells := 0, slots := 0, locals := 0 } : Room)) (fun a_ U => a_ = #[(.ref (A 12))] ∧ Z.Warmed39 U.vm ∧ U.heap = h0) (fun _ _ _ _ _ => True) (fun _ U o U' => ∃ v L, o = .returned v ∧ Q_rv12 Z A h0 n0 v U'.heap L ∧ FrameEnd U o U' L ({ frames := 0, cells := 0, slots := 0, locals := 0 } : Room).cells ({ frames := 0, cells := 0, slots := 0, locals := 0 } : Room).slots) := by
  refine MetFree.of_bodySF (plainFor_of_name pn_1) hisR ?_
  intro p e s m args below meth c s₁ Bd hml0 hP hK
  obtain ⟨rfl, hZ, hh⟩ := hP
  have hx := Bd.exec
  have hby := Bd.bytes
  have hlk : meth.locks = false := Bd.notSynchronized
  have hml : c.maxLocals = 1 := hml0
  have hown : s.vm.findClass "com/example/pelt/pelt/Axis" = some m.cls := findClass_of_methodNamed Bd.named
  have hnm := (name_of_methodNamed Bd.named Bd.method).1
  have X0 : Stand p l e ({ frames := 0, cells := 0, slots := 0, locals := 0 } : Room) s m #[(.ref (A 12))] below meth c s₁ [] 0 0 := Stand.of_body Bd
  have e0 : s₁.heap = h0 := by rw [← hh, Bd.state]; rfl
  have N0 := Fr.nil n0
  show OGets p e below (OLeaves s (Q_rv12 Z A h0 n0 ) ({ frames := 0, cells := 0, slots := 0, locals := 0 } : Room).cells ({ frames := 0, cells := 0, slots := 0, locals := 0 } : Room).slots) _
  refine OGets.enter (ef_rv12 m (A 12)) ?_
  show OGets p e below _ (s₁.setTop (mkF m 0 #[.val (.ref (A 12))] []))
  refine OGets.step (fun _ => XS.aloadN X0.here hx rfl (hb hby d3m6_0) rfl rfl) ?_
  show OGets p e below _ (s₁.setTop (mkF m 1 #[.val (.ref (A 12))] [(.ref (A 12))]))
  obtain ⟨T329, X329, e329, st329⟩ := getS2 X0 hx hZ hown (host := "") (Or.inl (hw _ (List.mem_of_getElem? (i := 28) rfl))) Via.refl e0 (show Sta Z h0 "com/example/pelt/pelt/Axis" "ANCESTOR" "Lcom/example/pelt/pelt/Axis;" (.ref (A 0)) from hS 0 (by decide)) (g := (mkF m 1 #[.val (.ref (A 12))] [(.ref (A 12))])) rfl (hb hby d3m6_1)
  refine OGets.step st329 ?_
  show OGets p e below _ (T329.setTop (mkF m 4 #[.val (.ref (A 12))] [(.ref (A 0)), (.ref (A 12))]))
  refine OGets.step (fun _ => Jvm.RoadKit.acmp (g := (mkF m 4 #[.val (.ref (A 12))] [(.ref (A 0)), (.ref (A 12))])) X329 hx rfl rfl rfl (pc0 := 4) (pc' := 7) (same := false) rfl (hb hby d3m6_4) rfl (decide_eq_false fun q => absurd (hI 12 0 (by decide) (by decide) (Value.ref.inj q)) (by decide)) (by decide) (by decide)) ?_
  show OGets p e below _ (T329.setTop (mkF m 7 #[.val (.ref (A 12))] []))
  refine OGets.step (fun _ => XS.aloadN X329.here hx rfl (hb hby d3m6_7) rfl rfl) ?_
  show OGets p e below _ (T329.setTop (mkF m 8 #[.val (.ref (A 12))] [(.ref (A 12))]))
  obtain ⟨T330, X330, e330, st330⟩ := getS2 X329 hx hZ hown (host := "") (Or.inl (hw _ (List.mem_of_getElem? (i := 35) rfl))) Via.refl e329 (show Sta Z h0 "com/example/pelt/pelt/Axis" "ANCESTOR_OR_SELF" "Lcom/example/pelt/pelt/Axis;" (.ref (A 1)) from hS 1 (by decide)) (g := (mkF m 8 #[.val (.ref (A 12))] [(.ref (A 12))])) rfl (hb hby d3m6_8)
  refine OGets.step st330 ?_
  show OGets p e below _ (T330.setTop (mkF m 11 #[.val (.ref (A 12))] [(.ref (A 1)), (.ref (A 12))]))
  refine OGets.step (fun _ => Jvm.RoadKit.acmp (g := (mkF m 11 #[.val (.ref (A 12))] [(.ref (A 1)), (.ref (A 12))])) X330 hx rfl rfl rfl (pc0 := 11) (pc' := 14) (same := false) rfl (hb hby d3m6_11) rfl (decide_eq_false fun q => absurd (hI 12 1 (by decide) (by decide) (Value.ref.inj q)) (by decide)) (by decide) (by decide)) ?_
  show OGets p e below _ (T330.setTop (mkF m 14 #[.val (.ref (A 12))] []))
  refine OGets.step (fun _ => XS.aloadN X330.here hx rfl (hb hby d3m6_14) rfl rfl) ?_
  show OGets p e below _ (T330.setTop (mkF m 15 #[.val (.ref (A 12))] [(.ref (A 12))]))
  obtain ⟨T331, X331, e331, st331⟩ := getS2 X330 hx hZ hown (host := "") (Or.inl (hw _ (List.mem_of_getElem? (i := 37) rfl))) Via.refl e330 (show Sta Z h0 "com/example/pelt/pelt/Axis" "PRECEDING" "Lcom/example/pelt/pelt/Axis;" (.ref (A 10)) from hS 10 (by decide)) (g := (mkF m 15 #[.val (.ref (A 12))] [(.ref (A 12))])) rfl (hb hby d3m6_15)
  refine OGets.step st331 ?_
  show OGets p e below _ (T331.setTop (mkF m 18 #[.val (.ref (A 12))] [(.ref (A 10)), (.ref (A 12))]))
  refine OGets.step (fun _ => Jvm.RoadKit.acmp (g := (mkF m 18 #[.val (.ref (A 12))] [(.ref (A 10)), (.ref (A 12))])) X331 hx rfl rfl rfl (pc0 := 18) (pc' := 21) (same := false) rfl (hb hby d3m6_18) rfl (decide_eq_false fun q => absurd (hI 12 10 (by decide) (by decide) (Value.ref.inj q)) (by decide)) (by decide) (by decide)) ?_
  show OGets p e below _ (T331.setTop (mkF m 21 #[.val (.ref (A 12))] []))
  refine OGets.step (fun _ => XS.aloadN X331.here hx rfl (hb hby d3m6_21) rfl rfl) ?_
  show OGets p e below _ (T331.setTop (mkF m 22 #[.val (.ref (A 12))] [(.ref (A 12))]))
  obtain ⟨T332, X332, e332, st332⟩ := getS2 X331 hx hZ hown (host := "") (Or.inl (hw _ (List.mem_of_getElem? (i := 39) rfl))) Via.refl e331 (show Sta Z h0 "com/example/pelt/pelt/Axis" "PRECEDING_SIBLING" "Lcom/example/pelt/pelt/Axis;" (.ref (A 11)) from hS 11 (by decide)) (g := (mkF m 22 #[.val (.ref (A 12))] [(.ref (A 12))])) rfl (hb hby d3m6_22)
  refine OGets.step st332 ?_
  show OGets p e below _ (T332.setTop (mkF m 25 #[.val (.ref (A 12))] [(.ref (A 11)), (.ref (A 12))]))
  refine OGets.step (fun _ => Jvm.RoadKit.acmp (g := (mkF m 25 #[.val (.ref (A 12))] [(.ref (A 11)), (.ref (A 12))])) X332 hx rfl rfl rfl (pc0 := 25) (pc' := 32) (same := false) rfl (hb hby d3m6_25) rfl (decide_eq_false fun q => absurd (hI 12 11 (by decide) (by decide) (Value.ref.inj q)) (by decide)) (by decide) (by decide)) ?_
  show OGets p e below _ (T332.setTop (mkF m 32 #[.val (.ref (A 12))] []))
  refine OGets.step (fun _ => XS.iconst X332.here hx rfl (hb hby d3m6_32)) ?_
  show OGets p e below _ (T332.setTop (mkF m 33 #[.val (.ref (A 12))] [(.int (0 : Int32))]))
  refine OGets.retN X332 hx hlk (t := .boolean) Bd.returns (by simp) (hb hby d3m6_33) (Nat.le_of_ble_eq_true rfl) (Nat.le_of_ble_eq_true rfl) ?_
  exact ⟨rfl, rfl, e332⟩
theorem ef_ex12 (m : MethodId) (x0 : Int32) : entryFrame m #[(.int x0)] 5 = mkF m 0 #[.val (.int x0), .unset, .unset, .unset, .unset] [] := by first | (simp [entryFrame, mkF, argsToLocals, Value.category]; done) | rfl
def Q_ex12 (Z : State)  (h0 : Heap) (n0 : Nat) (v : Option Value) (h : Heap) (L : List Loc) : Prop := v = some (.int (0 : Int32)) ∧ L = [] ∧ h = h0
set_option maxRecDepth 65536 in
set_option maxHeartbeats 40000000 in
theorem rm_ex12 (l : Launch) (Z : State) (a0 : Array Value) (hw : ∀ d ∈ tables_1, d.before a0 Z = true) (ws : List Jvm.Cond)  (h0 : Heap) (n0 : Nat) (Z0 : n0 ≤ h0.size) :
    MetFree l (⟨"com/example/pelt/pelt/AxisListsOverlapPinLaw", "expected", "(I)Z"⟩ : MethodName) (head1 (Jvm.Cond.code (⟨"com/example/pelt/pelt/AxisListsOverlapPinLaw", "expected", "(I)Z"⟩ : MethodName) method_3_code 5 (some .boolean) :: ws) ({ frames := 0, cells := 0, slots := 0, locals := 0 } : Room)) (fun a_ U => a_ = #[(.int (12 : Int32))] ∧ Z.Warmed39 U.vm ∧ U.heap = h0) (fun _ _ _ _ _ => True) (fun _ U o U' => ∃ v L, o = .returned v ∧ Q_ex12 Z  h0 n0 v U'.heap L ∧ FrameEnd U o U' L ({ frames := 0, cells := 0, slots := 0, locals := 0 } : Room).cells ({ frames := 0, cells := 0, slots := 0, locals := 0 } : Room).slots) := by
  refine MetFree.of_bodySF (plainFor_of_name pn_0) hisR ?_
  intro p e s m args below meth c s₁ Bd hml0 hP hK
  obtain ⟨rfl, hZ, hh⟩ := hP
  have hx := Bd.exec
  have hby := Bd.bytes
  have hlk : meth.locks = false := Bd.notSynchronized
  have hml : c.maxLocals = 5 := hml0
  have hown : s.vm.findClass "com/example/pelt/pelt/AxisListsOverlapPinLaw" = some m.cls := findClass_of_methodNamed Bd.named
  have hnm := (name_of_methodNamed Bd.named Bd.method).1
  have X0 : Stand p l e ({ frames := 0, cells := 0, slots := 0, locals := 0 } : Room) s m #[(.int (12 : Int32))] below meth c s₁ [] 0 0 := Stand.of_body Bd
  have e0 : s₁.heap = h0 := by rw [← hh, Bd.state]; rfl
  have N0 := Fr.nil n0
  show OGets p e below (OLeaves s (Q_ex12 Z  h0 n0 ) ({ frames := 0, cells := 0, slots := 0, locals := 0 } : Room).cells ({ frames := 0, cells := 0, slots := 0, locals := 0 } : Room).slots) _
  refine OGets.enter (ef_ex12 m (12 : Int32)) ?_
  show OGets p e below _ (s₁.setTop (mkF m 0 #[.val (.int (12 : Int32)), .unset, .unset, .unset, .unset] []))
  refine OGets.step (fun _ => XS.iloadN X0.here hx rfl (hb hby dm3_0) rfl) ?_
  show OGets p e below _ (s₁.setTop (mkF m 1 #[.val (.int (12 : Int32)), .unset, .unset, .unset, .unset] [(.int (12 : Int32))]))
  refine OGets.step (fun _ => XS.ifNo X0.here hx rfl (hb hby dm3_1) rfl ((if0 _ _).trans (feq (by decide : ¬ ((12 : Int32) = (0 : Int32)))).1)) ?_
  show OGets p e below _ (s₁.setTop (mkF m 4 #[.val (.int (12 : Int32)), .unset, .unset, .unset, .unset] []))
  refine OGets.step (fun _ => XS.iloadN X0.here hx rfl (hb hby dm3_4) rfl) ?_
  show OGets p e below _ (s₁.setTop (mkF m 5 #[.val (.int (12 : Int32)), .unset, .unset, .unset, .unset] [(.int (12 : Int32))]))
  refine OGets.step (fun _ => XS.iconst X0.here hx rfl (hb hby dm3_5)) ?_
  show OGets p e below _ (s₁.setTop (mkF m 6 #[.val (.int (12 : Int32)), .unset, .unset, .unset, .unset] [(.int (1 : Int32)), (.int (12 : Int32))]))
  refine OGets.step (fun _ => XS.icmpYes X0.here hx rfl (pc0 := 6) (pc' := 13) rfl (hb hby dm3_6) rfl (feq (by decide : ¬ ((12 : Int32) = (1 : Int32)))).2 (by decide) (by decide)) ?_
  show OGets p e below _ (s₁.setTop (mkF m 13 #[.val (.int (12 : Int32)), .unset, .unset, .unset, .unset] []))
  refine OGets.step (fun _ => XS.iconst X0.here hx rfl (hb hby dm3_13)) ?_
  show OGets p e below _ (s₁.setTop (mkF m 14 #[.val (.int (12 : Int32)), .unset, .unset, .unset, .unset] [(.int (0 : Int32))]))
  refine OGets.step (fun _ => XS.istoreN X0.here hx rfl (hb hby dm3_14) rfl (l' := #[.val (.int (12 : Int32)), .val (.int (0 : Int32)), .unset, .unset, .unset]) rfl) ?_
  show OGets p e below _ (s₁.setTop (mkF m 15 #[.val (.int (12 : Int32)), .val (.int (0 : Int32)), .unset, .unset, .unset] []))
  refine OGets.step (fun _ => XS.iloadN X0.here hx rfl (hb hby dm3_15) rfl) ?_
  show OGets p e below _ (s₁.setTop (mkF m 16 #[.val (.int (12 : Int32)), .val (.int (0 : Int32)), .unset, .unset, .unset] [(.int (12 : Int32))]))
  refine OGets.step (fun _ => XS.iconst X0.here hx rfl (hb hby dm3_16)) ?_
  show OGets p e below _ (s₁.setTop (mkF m 17 #[.val (.int (12 : Int32)), .val (.int (0 : Int32)), .unset, .unset, .unset] [(.int (4 : Int32)), (.int (12 : Int32))]))
  refine OGets.step (fun _ => XS.icmpNo X0.here hx rfl (hb hby dm3_17) rfl (feq (by decide : ¬ ((12 : Int32) = (4 : Int32)))).1) ?_
  show OGets p e below _ (s₁.setTop (mkF m 20 #[.val (.int (12 : Int32)), .val (.int (0 : Int32)), .unset, .unset, .unset] []))
  refine OGets.step (fun _ => XS.iloadN X0.here hx rfl (hb hby dm3_20) rfl) ?_
  show OGets p e below _ (s₁.setTop (mkF m 21 #[.val (.int (12 : Int32)), .val (.int (0 : Int32)), .unset, .unset, .unset] [(.int (12 : Int32))]))
  refine OGets.step (fun _ => XS.iconst X0.here hx rfl (hb hby dm3_21)) ?_
  show OGets p e below _ (s₁.setTop (mkF m 22 #[.val (.int (12 : Int32)), .val (.int (0 : Int32)), .unset, .unset, .unset] [(.int (5 : Int32)), (.int (12 : Int32))]))
  refine OGets.step (fun _ => XS.icmpYes X0.here hx rfl (pc0 := 22) (pc' := 29) rfl (hb hby dm3_22) rfl (feq (by decide : ¬ ((12 : Int32) = (5 : Int32)))).2 (by decide) (by decide)) ?_
  show OGets p e below _ (s₁.setTop (mkF m 29 #[.val (.int (12 : Int32)), .val (.int (0 : Int32)), .unset, .unset, .unset] []))
  refine OGets.step (fun _ => XS.iconst X0.here hx rfl (hb hby dm3_29)) ?_
  show OGets p e below _ (s₁.setTop (mkF m 30 #[.val (.int (12 : Int32)), .val (.int (0 : Int32)), .unset, .unset, .unset] [(.int (0 : Int32))]))
  refine OGets.step (fun _ => XS.istoreN X0.here hx rfl (hb hby dm3_30) rfl (l' := #[.val (.int (12 : Int32)), .val (.int (0 : Int32)), .val (.int (0 : Int32)), .unset, .unset]) rfl) ?_
  show OGets p e below _ (s₁.setTop (mkF m 31 #[.val (.int (12 : Int32)), .val (.int (0 : Int32)), .val (.int (0 : Int32)), .unset, .unset] []))
  refine OGets.step (fun _ => XS.iloadN X0.here hx rfl (hb hby dm3_31) rfl) ?_
  show OGets p e below _ (s₁.setTop (mkF m 32 #[.val (.int (12 : Int32)), .val (.int (0 : Int32)), .val (.int (0 : Int32)), .unset, .unset] [(.int (12 : Int32))]))
  refine OGets.step (fun _ => XS.bipush X0.here hx rfl (hb hby dm3_32)) ?_
  show OGets p e below _ (s₁.setTop (mkF m 34 #[.val (.int (12 : Int32)), .val (.int (0 : Int32)), .val (.int (0 : Int32)), .unset, .unset] [(.int (6 : Int32)), (.int (12 : Int32))]))
  refine OGets.step (fun _ => XS.icmpNo X0.here hx rfl (hb hby dm3_34) rfl (feq (by decide : ¬ ((12 : Int32) = (6 : Int32)))).1) ?_
  show OGets p e below _ (s₁.setTop (mkF m 37 #[.val (.int (12 : Int32)), .val (.int (0 : Int32)), .val (.int (0 : Int32)), .unset, .unset] []))
  refine OGets.step (fun _ => XS.iloadN X0.here hx rfl (hb hby dm3_37) rfl) ?_
  show OGets p e below _ (s₁.setTop (mkF m 38 #[.val (.int (12 : Int32)), .val (.int (0 : Int32)), .val (.int (0 : Int32)), .unset, .unset] [(.int (12 : Int32))]))
  refine OGets.step (fun _ => XS.bipush X0.here hx rfl (hb hby dm3_38)) ?_
  show OGets p e below _ (s₁.setTop (mkF m 40 #[.val (.int (12 : Int32)), .val (.int (0 : Int32)), .val (.int (0 : Int32)), .unset, .unset] [(.int (7 : Int32)), (.int (12 : Int32))]))
  refine OGets.step (fun _ => XS.icmpYes X0.here hx rfl (pc0 := 40) (pc' := 47) rfl (hb hby dm3_40) rfl (feq (by decide : ¬ ((12 : Int32) = (7 : Int32)))).2 (by decide) (by decide)) ?_
  show OGets p e below _ (s₁.setTop (mkF m 47 #[.val (.int (12 : Int32)), .val (.int (0 : Int32)), .val (.int (0 : Int32)), .unset, .unset] []))
  refine OGets.step (fun _ => XS.iconst X0.here hx rfl (hb hby dm3_47)) ?_
  show OGets p e below _ (s₁.setTop (mkF m 48 #[.val (.int (12 : Int32)), .val (.int (0 : Int32)), .val (.int (0 : Int32)), .unset, .unset] [(.int (0 : Int32))]))
  refine OGets.step (fun _ => XS.istoreN X0.here hx rfl (hb hby dm3_48) rfl (l' := #[.val (.int (12 : Int32)), .val (.int (0 : Int32)), .val (.int (0 : Int32)), .val (.int (0 : Int32)), .unset]) rfl) ?_
  show OGets p e below _ (s₁.setTop (mkF m 49 #[.val (.int (12 : Int32)), .val (.int (0 : Int32)), .val (.int (0 : Int32)), .val (.int (0 : Int32)), .unset] []))
  refine OGets.step (fun _ => XS.iloadN X0.here hx rfl (hb hby dm3_49) rfl) ?_
  show OGets p e below _ (s₁.setTop (mkF m 50 #[.val (.int (12 : Int32)), .val (.int (0 : Int32)), .val (.int (0 : Int32)), .val (.int (0 : Int32)), .unset] [(.int (12 : Int32))]))
  refine OGets.step (fun _ => XS.bipush X0.here hx rfl (hb hby dm3_50)) ?_
  show OGets p e below _ (s₁.setTop (mkF m 52 #[.val (.int (12 : Int32)), .val (.int (0 : Int32)), .val (.int (0 : Int32)), .val (.int (0 : Int32)), .unset] [(.int (10 : Int32)), (.int (12 : Int32))]))
  refine OGets.step (fun _ => XS.icmpNo X0.here hx rfl (hb hby dm3_52) rfl (feq (by decide : ¬ ((12 : Int32) = (10 : Int32)))).1) ?_
  show OGets p e below _ (s₁.setTop (mkF m 55 #[.val (.int (12 : Int32)), .val (.int (0 : Int32)), .val (.int (0 : Int32)), .val (.int (0 : Int32)), .unset] []))
  refine OGets.step (fun _ => XS.iloadN X0.here hx rfl (hb hby dm3_55) rfl) ?_
  show OGets p e below _ (s₁.setTop (mkF m 56 #[.val (.int (12 : Int32)), .val (.int (0 : Int32)), .val (.int (0 : Int32)), .val (.int (0 : Int32)), .unset] [(.int (12 : Int32))]))
  refine OGets.step (fun _ => XS.bipush X0.here hx rfl (hb hby dm3_56)) ?_
  show OGets p e below _ (s₁.setTop (mkF m 58 #[.val (.int (12 : Int32)), .val (.int (0 : Int32)), .val (.int (0 : Int32)), .val (.int (0 : Int32)), .unset] [(.int (11 : Int32)), (.int (12 : Int32))]))
  refine OGets.step (fun _ => XS.icmpYes X0.here hx rfl (pc0 := 58) (pc' := 65) rfl (hb hby dm3_58) rfl (feq (by decide : ¬ ((12 : Int32) = (11 : Int32)))).2 (by decide) (by decide)) ?_
  show OGets p e below _ (s₁.setTop (mkF m 65 #[.val (.int (12 : Int32)), .val (.int (0 : Int32)), .val (.int (0 : Int32)), .val (.int (0 : Int32)), .unset] []))
  refine OGets.step (fun _ => XS.iconst X0.here hx rfl (hb hby dm3_65)) ?_
  show OGets p e below _ (s₁.setTop (mkF m 66 #[.val (.int (12 : Int32)), .val (.int (0 : Int32)), .val (.int (0 : Int32)), .val (.int (0 : Int32)), .unset] [(.int (0 : Int32))]))
  refine OGets.step (fun _ => XS.istore X0.here hx rfl (hb hby dm3_66) rfl (l' := #[.val (.int (12 : Int32)), .val (.int (0 : Int32)), .val (.int (0 : Int32)), .val (.int (0 : Int32)), .val (.int (0 : Int32))]) rfl) ?_
  show OGets p e below _ (s₁.setTop (mkF m 68 #[.val (.int (12 : Int32)), .val (.int (0 : Int32)), .val (.int (0 : Int32)), .val (.int (0 : Int32)), .val (.int (0 : Int32))] []))
  refine OGets.step (fun _ => XS.iloadN X0.here hx rfl (hb hby dm3_68) rfl) ?_
  show OGets p e below _ (s₁.setTop (mkF m 69 #[.val (.int (12 : Int32)), .val (.int (0 : Int32)), .val (.int (0 : Int32)), .val (.int (0 : Int32)), .val (.int (0 : Int32))] [(.int (0 : Int32))]))
  refine OGets.step (fun _ => XS.ifNo X0.here hx rfl (hb hby dm3_69) rfl ((if0 _ _).trans (teq (by decide : (0 : Int32) = (0 : Int32))).2)) ?_
  show OGets p e below _ (s₁.setTop (mkF m 72 #[.val (.int (12 : Int32)), .val (.int (0 : Int32)), .val (.int (0 : Int32)), .val (.int (0 : Int32)), .val (.int (0 : Int32))] []))
  refine OGets.step (fun _ => XS.iloadN X0.here hx rfl (hb hby dm3_72) rfl) ?_
  show OGets p e below _ (s₁.setTop (mkF m 73 #[.val (.int (12 : Int32)), .val (.int (0 : Int32)), .val (.int (0 : Int32)), .val (.int (0 : Int32)), .val (.int (0 : Int32))] [(.int (0 : Int32))]))
  refine OGets.step (fun _ => XS.ifNo X0.here hx rfl (hb hby dm3_73) rfl ((if0 _ _).trans (teq (by decide : (0 : Int32) = (0 : Int32))).2)) ?_
  show OGets p e below _ (s₁.setTop (mkF m 76 #[.val (.int (12 : Int32)), .val (.int (0 : Int32)), .val (.int (0 : Int32)), .val (.int (0 : Int32)), .val (.int (0 : Int32))] []))
  refine OGets.step (fun _ => XS.iloadN X0.here hx rfl (hb hby dm3_76) rfl) ?_
  show OGets p e below _ (s₁.setTop (mkF m 77 #[.val (.int (12 : Int32)), .val (.int (0 : Int32)), .val (.int (0 : Int32)), .val (.int (0 : Int32)), .val (.int (0 : Int32))] [(.int (0 : Int32))]))
  refine OGets.step (fun _ => XS.ifNo X0.here hx rfl (hb hby dm3_77) rfl ((if0 _ _).trans (teq (by decide : (0 : Int32) = (0 : Int32))).2)) ?_
  show OGets p e below _ (s₁.setTop (mkF m 80 #[.val (.int (12 : Int32)), .val (.int (0 : Int32)), .val (.int (0 : Int32)), .val (.int (0 : Int32)), .val (.int (0 : Int32))] []))
  refine OGets.step (fun _ => XS.iload X0.here hx rfl (hb hby dm3_80) rfl) ?_
  show OGets p e below _ (s₁.setTop (mkF m 82 #[.val (.int (12 : Int32)), .val (.int (0 : Int32)), .val (.int (0 : Int32)), .val (.int (0 : Int32)), .val (.int (0 : Int32))] [(.int (0 : Int32))]))
  refine OGets.step (fun _ => XS.ifYes X0.here hx rfl (pc0 := 82) (pc' := 89) rfl (hb hby dm3_82) rfl ((if0 _ _).trans (teq (by decide : (0 : Int32) = (0 : Int32))).1) (by decide) (by decide)) ?_
  show OGets p e below _ (s₁.setTop (mkF m 89 #[.val (.int (12 : Int32)), .val (.int (0 : Int32)), .val (.int (0 : Int32)), .val (.int (0 : Int32)), .val (.int (0 : Int32))] []))
  refine OGets.step (fun _ => XS.iconst X0.here hx rfl (hb hby dm3_89)) ?_
  show OGets p e below _ (s₁.setTop (mkF m 90 #[.val (.int (12 : Int32)), .val (.int (0 : Int32)), .val (.int (0 : Int32)), .val (.int (0 : Int32)), .val (.int (0 : Int32))] [(.int (0 : Int32))]))
  refine OGets.retN X0 hx hlk (t := .boolean) Bd.returns (by simp) (hb hby dm3_90) (Nat.le_of_ble_eq_true rfl) (Nat.le_of_ble_eq_true rfl) ?_
  exact ⟨rfl, rfl, e0⟩
theorem own_13 (x : Int32) : (x &&& (2147483647 : Int32)) % (13 : Int32) = (0 : Int32) ∨ (x &&& (2147483647 : Int32)) % (13 : Int32) = (1 : Int32) ∨ (x &&& (2147483647 : Int32)) % (13 : Int32) = (2 : Int32) ∨ (x &&& (2147483647 : Int32)) % (13 : Int32) = (3 : Int32) ∨ (x &&& (2147483647 : Int32)) % (13 : Int32) = (4 : Int32) ∨ (x &&& (2147483647 : Int32)) % (13 : Int32) = (5 : Int32) ∨ (x &&& (2147483647 : Int32)) % (13 : Int32) = (6 : Int32) ∨ (x &&& (2147483647 : Int32)) % (13 : Int32) = (7 : Int32) ∨ (x &&& (2147483647 : Int32)) % (13 : Int32) = (8 : Int32) ∨ (x &&& (2147483647 : Int32)) % (13 : Int32) = (9 : Int32) ∨ (x &&& (2147483647 : Int32)) % (13 : Int32) = (10 : Int32) ∨ (x &&& (2147483647 : Int32)) % (13 : Int32) = (11 : Int32) ∨ (x &&& (2147483647 : Int32)) % (13 : Int32) = (12 : Int32) := by
  have h1 := c_mask x 2147483647 31 (by decide) (by decide)
  have h2 := (c_irem (x &&& 2147483647) 13 13 (by decide)).1 (by omega)
  have h3 : 0 ≤ ((x &&& (2147483647 : Int32)) % (13 : Int32)).toInt ∧ ((x &&& (2147483647 : Int32)) % (13 : Int32)).toInt < 13 := by omega
  generalize (x &&& (2147483647 : Int32)) % (13 : Int32) = k at h3 ⊢
  simp only [← Int32.toInt_inj, Int32.reduceToInt]
  omega
theorem pd_2 : parseMethodDescriptor "(I)Lcom/example/pelt/pelt/Axis;" = some ⟨[.int], some (.object "com/example/pelt/pelt/Axis")⟩ := by decide +kernel
theorem pd_3 : parseMethodDescriptor "()Z" = some ⟨[], some .boolean⟩ := by decide +kernel
theorem pd_4 : parseMethodDescriptor "(I)Z" = some ⟨[.int], some .boolean⟩ := by decide +kernel
theorem ef_law (m : MethodId) (x0 : Int32) : entryFrame m #[(.int x0)] maxLocals = mkF m 0 #[.val (.int x0), .unset, .unset, .unset, .unset] [] := by first | (simp [entryFrame, mkF, argsToLocals, Value.category, maxLocals]; done) | rfl
def Q_law (Z : State) (p0 : Int32) (A : Nat → Addr) (h0 : Heap) (n0 : Nat) (v : Option Value) (h : Heap) (L : List Loc) : Prop := v = some (.int 1) ∧ Fr n0 L
set_option maxRecDepth 65536 in
set_option maxHeartbeats 40000000 in
theorem rm_law (l : Launch) (Z : State) (a0 : Array Value) (hw : ∀ d ∈ tables_1, d.before a0 Z = true) (ws : List Jvm.Cond) (p0 : Int32) (A : Nat → Addr) (h0 : Heap) (n0 : Nat) (Z0 : n0 ≤ h0.size) (hS : ∀ i, i < 13 → Sta Z h0 "com/example/pelt/pelt/Axis" (nmOf i) "Lcom/example/pelt/pelt/Axis;" (.ref (A i))) (hI : ∀ i j, i < 13 → j < 13 → A i = A j → i = j) (hE : ∀ i, i < 13 → Exa Z h0 (A i) (clOf i)) :
    MetFree l x (head1 (Jvm.Cond.code x code maxLocals ret :: ws) room_1) (fun a_ U => a_ = #[(.int p0)] ∧ Z.Warmed39 U.vm ∧ U.heap = h0) (fun _ _ _ _ _ => True) (fun _ U o U' => ∃ v L, o = .returned v ∧ Q_law Z p0 A h0 n0 v U'.heap L ∧ FrameEnd U o U' L 0 0) := by
  refine MetFree.of_bodySF (plainFor_of_name pn_0) hisR ?_
  intro p e s m args below meth c s₁ Bd hml0 hP hK
  obtain ⟨rfl, hZ, hh⟩ := hP
  have hx := Bd.exec
  have hby := Bd.bytes
  have hlk : meth.locks = false := Bd.notSynchronized
  have hml : c.maxLocals = 5 := hml0
  have hown : s.vm.findClass "com/example/pelt/pelt/AxisListsOverlapPinLaw" = some m.cls := findClass_of_methodNamed Bd.named
  have hnm := (name_of_methodNamed Bd.named Bd.method).1
  have X0 : Stand p l e room_1 s m #[(.int p0)] below meth c s₁ [] 0 0 := Stand.of_body Bd
  have e0 : s₁.heap = h0 := by rw [← hh, Bd.state]; rfl
  have N0 := Fr.nil n0
  show OGets p e below (OLeaves s (Q_law Z p0 A h0 n0 ) 0 0) _
  refine OGets.enter (ef_law m p0) ?_
  show OGets p e below _ (s₁.setTop (mkF m 0 #[.val (.int p0), .unset, .unset, .unset, .unset] []))
  refine OGets.step (fun _ => XS.iloadN X0.here hx rfl (hb hby at_0) rfl) ?_
  show OGets p e below _ (s₁.setTop (mkF m 1 #[.val (.int p0), .unset, .unset, .unset, .unset] [(.int p0)]))
  refine OGets.step (fun _ => X0.ldcInt hx hown (mvT hZ (hw _ (List.mem_of_getElem? (i := 0) rfl))) (g := (mkF m 1 #[.val (.int p0), .unset, .unset, .unset, .unset] [(.int p0)])) rfl (hb hby at_1) _) ?_
  show OGets p e below _ (s₁.setTop (mkF m 3 #[.val (.int p0), .unset, .unset, .unset, .unset] [(.int (2147483647 : Int32)), (.int p0)]))
  refine OGets.step (fun _ => XS.iand X0.here hx rfl (hb hby at_3) rfl) ?_
  show OGets p e below _ (s₁.setTop (mkF m 4 #[.val (.int p0), .unset, .unset, .unset, .unset] [(.int (p0 &&& (2147483647 : Int32)))]))
  refine OGets.step (fun _ => XS.bipush X0.here hx rfl (hb hby at_4)) ?_
  show OGets p e below _ (s₁.setTop (mkF m 6 #[.val (.int p0), .unset, .unset, .unset, .unset] [(.int (13 : Int32)), (.int (p0 &&& (2147483647 : Int32)))]))
  refine OGets.step (fun _ => iremM (g := (mkF m 6 #[.val (.int p0), .unset, .unset, .unset, .unset] [(.int (13 : Int32)), (.int (p0 &&& (2147483647 : Int32)))])) X0 hx rfl (hb hby at_6) rfl (by decide)) ?_
  have h13 := own_13 p0
  generalize ((p0 &&& (2147483647 : Int32)) % (13 : Int32)) = kk at h13 ⊢
  rcases h13 with rfl | rfl | rfl | rfl | rfl | rfl | rfl | rfl | rfl | rfl | rfl | rfl | rfl
  · show OGets p e below _ (s₁.setTop (mkF m 7 #[.val (.int p0), .unset, .unset, .unset, .unset] [(.int (0 : Int32))]))
    refine OGets.step (fun _ => XS.istoreN X0.here hx rfl (hb hby at_7) rfl (l' := #[.val (.int p0), .val (.int (0 : Int32)), .unset, .unset, .unset]) rfl) ?_
    show OGets p e below _ (s₁.setTop (mkF m 8 #[.val (.int p0), .val (.int (0 : Int32)), .unset, .unset, .unset] []))
    refine OGets.step (fun _ => XS.iloadN X0.here hx rfl (hb hby at_8) rfl) ?_
    show OGets p e below _ (s₁.setTop (mkF m 9 #[.val (.int p0), .val (.int (0 : Int32)), .unset, .unset, .unset] [(.int (0 : Int32))]))
    obtain ⟨_, _, ⟨T345, L345, k345, n345⟩, -, X345, ⟨Lc345, hQ345, l345, y345, z345⟩, st345⟩ := Jvm.LawKit.callS X0 hx (y := (⟨"com/example/pelt/pelt/AxisListsOverlapPinLaw", "pick", "(I)Lcom/example/pelt/pelt/Axis;"⟩ : MethodName)) hown (mvT hZ (hw _ (List.mem_of_getElem? (i := 1) rfl))) (mvT hZ (hw _ (List.mem_of_getElem? (i := 2) rfl))) (mvT hZ (hw _ (List.mem_of_getElem? (i := 3) rfl))) (mvT hZ (hw _ (List.mem_of_getElem? (i := 4) rfl))) (by decide) (backOf (W := 0) (rm_pk0 l Z a0 hw [] A h0 n0  Z0 hS hI) hZ (hw _ (List.mem_of_getElem? (i := 4) rfl)) (hw _ (List.mem_of_getElem? (i := 3) rfl)) (by decide) (by decide)) (g := (mkF m 9 #[.val (.int p0), .val (.int (0 : Int32)), .unset, .unset, .unset] [(.int (0 : Int32))])) rfl (by rw [hml]; rfl) (argsL := [(.int (0 : Int32))]) (rest := []) (lenOf pd_2 rfl) rfl (by show 2 * 0 + _ ≤ _; exact Nat.le_of_eq rfl) (hb hby at_9) (fun _ _ => ⟨rfl, e0, Nat.le_of_ble_eq_true rfl, Nat.le_of_ble_eq_true rfl⟩)
    dsimp only [Pt.U, Pt.locs, Pt.cells, Pt.slots] at X345 l345 y345 z345 st345 hQ345
    rw [l345, y345, z345] at X345
    obtain ⟨rfl, rfl, e345⟩ := hQ345
    have X345 : Stand p l e _ s m #[(.int p0)] below meth c T345 [] 0 0 := X345
    refine OGets.step st345 ?_
    show OGets p e below _ (T345.setTop (mkF m 12 #[.val (.int p0), .val (.int (0 : Int32)), .unset, .unset, .unset] [(.ref (A 0))]))
    refine OGets.step (fun _ => XS.astoreN X345.here hx rfl (hb hby at_12) rfl rfl (l' := #[.val (.int p0), .val (.int (0 : Int32)), .val (.ref (A 0)), .unset, .unset]) rfl) ?_
    show OGets p e below _ (T345.setTop (mkF m 13 #[.val (.int p0), .val (.int (0 : Int32)), .val (.ref (A 0)), .unset, .unset] []))
    refine OGets.step (fun _ => XS.aloadN X345.here hx rfl (hb hby at_13) rfl rfl) ?_
    show OGets p e below _ (T345.setTop (mkF m 14 #[.val (.int p0), .val (.int (0 : Int32)), .val (.ref (A 0)), .unset, .unset] [(.ref (A 0))]))
    obtain ⟨cq346, kq346, q346a, q346b, q346c⟩ := isOf hZ e345 (show Exa Z h0 (A 0) "com/example/pelt/pelt/Axis$1" from hE 0 (by decide))
    obtain ⟨_, _, ⟨T346, L346, k346, n346⟩, -, X346, ⟨Lc346, hQ346, l346, y346, z346⟩, st346⟩ := X345.virtualBack hx (y := (⟨"com/example/pelt/pelt/Axis", "listsOverlap", "()Z"⟩ : MethodName)) (z := (⟨"com/example/pelt/pelt/Axis", "listsOverlap", "()Z"⟩ : MethodName)) hown (mvT hZ (hw _ (List.mem_of_getElem? (i := 8) rfl))) (mvT hZ (hw _ (List.mem_of_getElem? (i := 9) rfl))) (notFace_of_selects (args := #[]) (mvT hZ (hw _ (List.mem_of_getElem? (i := 11) rfl)))) (mvT hZ (hw _ (List.mem_of_getElem? (i := 11) rfl))) (mvT hZ (hw _ (List.mem_of_getElem? (i := 10) rfl))) (by decide) (backOf (W := 0) (rm_lo0 l Z a0 hw [] A h0 n0  Z0 hS hI) hZ (hw _ (List.mem_of_getElem? (i := 12) rfl)) (hw _ (List.mem_of_getElem? (i := 6) rfl)) (by decide) (by decide)) q346a q346c (g := (mkF m 14 #[.val (.int p0), .val (.int (0 : Int32)), .val (.ref (A 0)), .unset, .unset] [(.ref (A 0))])) rfl (by rw [hml]; rfl) (Steps.refl _) (argsL := []) (rest := []) (lenOf pd_3 rfl) rfl (by show 2 * 0 + _ ≤ _; exact Nat.le_of_eq rfl) (hb hby at_14) (fun _ _ => ⟨rfl, e345, Nat.le_of_ble_eq_true rfl, Nat.le_of_ble_eq_true rfl⟩)
    dsimp only [Pt.U, Pt.locs, Pt.cells, Pt.slots] at X346 l346 y346 z346 st346 hQ346
    rw [l346, y346, z346] at X346
    obtain ⟨rfl, rfl, e346⟩ := hQ346
    have X346 : Stand p l e _ s m #[(.int p0)] below meth c T346 [] 0 0 := X346
    refine OGets.after st346 ?_
    show OGets p e below _ (T346.setTop (mkF m 17 #[.val (.int p0), .val (.int (0 : Int32)), .val (.ref (A 0)), .unset, .unset] [(.int (1 : Int32))]))
    refine OGets.step (fun _ => XS.istoreN X346.here hx rfl (hb hby at_17) rfl (l' := #[.val (.int p0), .val (.int (0 : Int32)), .val (.ref (A 0)), .val (.int (1 : Int32)), .unset]) rfl) ?_
    show OGets p e below _ (T346.setTop (mkF m 18 #[.val (.int p0), .val (.int (0 : Int32)), .val (.ref (A 0)), .val (.int (1 : Int32)), .unset] []))
    refine OGets.step (fun _ => XS.aloadN X346.here hx rfl (hb hby at_18) rfl rfl) ?_
    show OGets p e below _ (T346.setTop (mkF m 19 #[.val (.int p0), .val (.int (0 : Int32)), .val (.ref (A 0)), .val (.int (1 : Int32)), .unset] [(.ref (A 0))]))
    obtain ⟨cq347, kq347, q347a, q347b, q347c⟩ := isOf hZ e346 (show Exa Z h0 (A 0) "com/example/pelt/pelt/Axis$1" from hE 0 (by decide))
    obtain ⟨_, _, ⟨T347, L347, k347, n347⟩, -, X347, ⟨Lc347, hQ347, l347, y347, z347⟩, st347⟩ := X346.virtualBack hx (y := (⟨"com/example/pelt/pelt/Axis", "isReverse", "()Z"⟩ : MethodName)) (z := (⟨"com/example/pelt/pelt/Axis", "isReverse", "()Z"⟩ : MethodName)) hown (mvT hZ (hw _ (List.mem_of_getElem? (i := 23) rfl))) (mvT hZ (hw _ (List.mem_of_getElem? (i := 24) rfl))) (notFace_of_selects (args := #[]) (mvT hZ (hw _ (List.mem_of_getElem? (i := 26) rfl)))) (mvT hZ (hw _ (List.mem_of_getElem? (i := 26) rfl))) (mvT hZ (hw _ (List.mem_of_getElem? (i := 25) rfl))) (by decide) (backOf (W := 0) (rm_rv0 l Z a0 hw [] A h0 n0  Z0 hS hI) hZ (hw _ (List.mem_of_getElem? (i := 27) rfl)) (hw _ (List.mem_of_getElem? (i := 6) rfl)) (by decide) (by decide)) q347a q347c (g := (mkF m 19 #[.val (.int p0), .val (.int (0 : Int32)), .val (.ref (A 0)), .val (.int (1 : Int32)), .unset] [(.ref (A 0))])) rfl (by rw [hml]; rfl) (Steps.refl _) (argsL := []) (rest := []) (lenOf pd_3 rfl) rfl (by show 2 * 0 + _ ≤ _; exact Nat.le_of_eq rfl) (hb hby at_19) (fun _ _ => ⟨rfl, e346, Nat.le_of_ble_eq_true rfl, Nat.le_of_ble_eq_true rfl⟩)
    dsimp only [Pt.U, Pt.locs, Pt.cells, Pt.slots] at X347 l347 y347 z347 st347 hQ347
    rw [l347, y347, z347] at X347
    obtain ⟨rfl, rfl, e347⟩ := hQ347
    have X347 : Stand p l e _ s m #[(.int p0)] below meth c T347 [] 0 0 := X347
    refine OGets.after st347 ?_
    show OGets p e below _ (T347.setTop (mkF m 22 #[.val (.int p0), .val (.int (0 : Int32)), .val (.ref (A 0)), .val (.int (1 : Int32)), .unset] [(.int (1 : Int32))]))
    refine OGets.step (fun _ => XS.ifNo X347.here hx rfl (hb hby at_22) rfl ((if0 _ _).trans (feq (by decide : ¬ ((1 : Int32) = (0 : Int32)))).1)) ?_
    show OGets p e below _ (T347.setTop (mkF m 25 #[.val (.int p0), .val (.int (0 : Int32)), .val (.ref (A 0)), .val (.int (1 : Int32)), .unset] []))
    refine OGets.step (fun _ => XS.iloadN X347.here hx rfl (hb hby at_25) rfl) ?_
    show OGets p e below _ (T347.setTop (mkF m 26 #[.val (.int p0), .val (.int (0 : Int32)), .val (.ref (A 0)), .val (.int (1 : Int32)), .unset] [(.int (1 : Int32))]))
    refine OGets.step (fun _ => XS.ifNo X347.here hx rfl (hb hby at_26) rfl ((if0 _ _).trans (feq (by decide : ¬ ((1 : Int32) = (0 : Int32)))).1)) ?_
    show OGets p e below _ (T347.setTop (mkF m 29 #[.val (.int p0), .val (.int (0 : Int32)), .val (.ref (A 0)), .val (.int (1 : Int32)), .unset] []))
    refine OGets.step (fun _ => XS.iconst X347.here hx rfl (hb hby at_29)) ?_
    show OGets p e below _ (T347.setTop (mkF m 30 #[.val (.int p0), .val (.int (0 : Int32)), .val (.ref (A 0)), .val (.int (1 : Int32)), .unset] [(.int (1 : Int32))]))
    refine OGets.step (fun _ => XS.goto X347.here hx rfl (pc0 := 30) (pc' := 34) rfl (hb hby at_30) (by decide) (by decide)) ?_
    show OGets p e below _ (T347.setTop (mkF m 34 #[.val (.int p0), .val (.int (0 : Int32)), .val (.ref (A 0)), .val (.int (1 : Int32)), .unset] [(.int (1 : Int32))]))
    refine OGets.step (fun _ => XS.istore X347.here hx rfl (hb hby at_34) rfl (l' := #[.val (.int p0), .val (.int (0 : Int32)), .val (.ref (A 0)), .val (.int (1 : Int32)), .val (.int (1 : Int32))]) rfl) ?_
    show OGets p e below _ (T347.setTop (mkF m 36 #[.val (.int p0), .val (.int (0 : Int32)), .val (.ref (A 0)), .val (.int (1 : Int32)), .val (.int (1 : Int32))] []))
    refine OGets.step (fun _ => XS.iloadN X347.here hx rfl (hb hby at_36) rfl) ?_
    show OGets p e below _ (T347.setTop (mkF m 37 #[.val (.int p0), .val (.int (0 : Int32)), .val (.ref (A 0)), .val (.int (1 : Int32)), .val (.int (1 : Int32))] [(.int (1 : Int32))]))
    refine OGets.step (fun _ => XS.iloadN X347.here hx rfl (hb hby at_37) rfl) ?_
    show OGets p e below _ (T347.setTop (mkF m 38 #[.val (.int p0), .val (.int (0 : Int32)), .val (.ref (A 0)), .val (.int (1 : Int32)), .val (.int (1 : Int32))] [(.int (0 : Int32)), (.int (1 : Int32))]))
    obtain ⟨_, _, ⟨T350, L350, k350, n350⟩, -, X350, ⟨Lc350, hQ350, l350, y350, z350⟩, st350⟩ := Jvm.LawKit.callS X347 hx (y := (⟨"com/example/pelt/pelt/AxisListsOverlapPinLaw", "expected", "(I)Z"⟩ : MethodName)) hown (mvT hZ (hw _ (List.mem_of_getElem? (i := 29) rfl))) (mvT hZ (hw _ (List.mem_of_getElem? (i := 30) rfl))) (mvT hZ (hw _ (List.mem_of_getElem? (i := 3) rfl))) (mvT hZ (hw _ (List.mem_of_getElem? (i := 31) rfl))) (by decide) (backOf (W := 1) (rm_ex0 l Z a0 hw []  h0 n0  Z0 ) hZ (hw _ (List.mem_of_getElem? (i := 31) rfl)) (hw _ (List.mem_of_getElem? (i := 3) rfl)) (by decide) (by decide)) (g := (mkF m 38 #[.val (.int p0), .val (.int (0 : Int32)), .val (.ref (A 0)), .val (.int (1 : Int32)), .val (.int (1 : Int32))] [(.int (0 : Int32)), (.int (1 : Int32))])) rfl (by rw [hml]; rfl) (argsL := [(.int (0 : Int32))]) (rest := [(.int (1 : Int32))]) (lenOf pd_4 rfl) rfl (by show 2 * 0 + _ ≤ _; exact Nat.le_of_eq rfl) (hb hby at_38) (fun _ _ => ⟨rfl, e347, Nat.le_of_ble_eq_true rfl, Nat.le_of_ble_eq_true rfl⟩)
    dsimp only [Pt.U, Pt.locs, Pt.cells, Pt.slots] at X350 l350 y350 z350 st350 hQ350
    rw [l350, y350, z350] at X350
    obtain ⟨rfl, rfl, e350⟩ := hQ350
    have X350 : Stand p l e _ s m #[(.int p0)] below meth c T350 [] 0 0 := X350
    refine OGets.step st350 ?_
    show OGets p e below _ (T350.setTop (mkF m 41 #[.val (.int p0), .val (.int (0 : Int32)), .val (.ref (A 0)), .val (.int (1 : Int32)), .val (.int (1 : Int32))] [(.int (1 : Int32)), (.int (1 : Int32))]))
    refine OGets.step (fun _ => XS.icmpNo X350.here hx rfl (hb hby at_41) rfl (teq (by decide : (1 : Int32) = (1 : Int32))).2) ?_
    show OGets p e below _ (T350.setTop (mkF m 44 #[.val (.int p0), .val (.int (0 : Int32)), .val (.ref (A 0)), .val (.int (1 : Int32)), .val (.int (1 : Int32))] []))
    refine OGets.step (fun _ => XS.iload X350.here hx rfl (hb hby at_44) rfl) ?_
    show OGets p e below _ (T350.setTop (mkF m 46 #[.val (.int p0), .val (.int (0 : Int32)), .val (.ref (A 0)), .val (.int (1 : Int32)), .val (.int (1 : Int32))] [(.int (1 : Int32))]))
    refine OGets.step (fun _ => XS.ifNo X350.here hx rfl (hb hby at_46) rfl ((if0 _ _).trans (feq (by decide : ¬ ((1 : Int32) = (0 : Int32)))).1)) ?_
    show OGets p e below _ (T350.setTop (mkF m 49 #[.val (.int p0), .val (.int (0 : Int32)), .val (.ref (A 0)), .val (.int (1 : Int32)), .val (.int (1 : Int32))] []))
    refine OGets.step (fun _ => XS.iconst X350.here hx rfl (hb hby at_49)) ?_
    show OGets p e below _ (T350.setTop (mkF m 50 #[.val (.int p0), .val (.int (0 : Int32)), .val (.ref (A 0)), .val (.int (1 : Int32)), .val (.int (1 : Int32))] [(.int (1 : Int32))]))
    refine OGets.step (fun _ => XS.goto X350.here hx rfl (pc0 := 50) (pc' := 54) rfl (hb hby at_50) (by decide) (by decide)) ?_
    show OGets p e below _ (T350.setTop (mkF m 54 #[.val (.int p0), .val (.int (0 : Int32)), .val (.ref (A 0)), .val (.int (1 : Int32)), .val (.int (1 : Int32))] [(.int (1 : Int32))]))
    refine OGets.retN X350 hx hlk (t := .boolean) Bd.returns (by simp) (hb hby at_54) (Nat.le_of_ble_eq_true rfl) (Nat.le_of_ble_eq_true rfl) ?_
    exact ⟨rfl, N0⟩
  · show OGets p e below _ (s₁.setTop (mkF m 7 #[.val (.int p0), .unset, .unset, .unset, .unset] [(.int (1 : Int32))]))
    refine OGets.step (fun _ => XS.istoreN X0.here hx rfl (hb hby at_7) rfl (l' := #[.val (.int p0), .val (.int (1 : Int32)), .unset, .unset, .unset]) rfl) ?_
    show OGets p e below _ (s₁.setTop (mkF m 8 #[.val (.int p0), .val (.int (1 : Int32)), .unset, .unset, .unset] []))
    refine OGets.step (fun _ => XS.iloadN X0.here hx rfl (hb hby at_8) rfl) ?_
    show OGets p e below _ (s₁.setTop (mkF m 9 #[.val (.int p0), .val (.int (1 : Int32)), .unset, .unset, .unset] [(.int (1 : Int32))]))
    obtain ⟨_, _, ⟨T353, L353, k353, n353⟩, -, X353, ⟨Lc353, hQ353, l353, y353, z353⟩, st353⟩ := Jvm.LawKit.callS X0 hx (y := (⟨"com/example/pelt/pelt/AxisListsOverlapPinLaw", "pick", "(I)Lcom/example/pelt/pelt/Axis;"⟩ : MethodName)) hown (mvT hZ (hw _ (List.mem_of_getElem? (i := 1) rfl))) (mvT hZ (hw _ (List.mem_of_getElem? (i := 2) rfl))) (mvT hZ (hw _ (List.mem_of_getElem? (i := 3) rfl))) (mvT hZ (hw _ (List.mem_of_getElem? (i := 4) rfl))) (by decide) (backOf (W := 0) (rm_pk1 l Z a0 hw [] A h0 n0  Z0 hS hI) hZ (hw _ (List.mem_of_getElem? (i := 4) rfl)) (hw _ (List.mem_of_getElem? (i := 3) rfl)) (by decide) (by decide)) (g := (mkF m 9 #[.val (.int p0), .val (.int (1 : Int32)), .unset, .unset, .unset] [(.int (1 : Int32))])) rfl (by rw [hml]; rfl) (argsL := [(.int (1 : Int32))]) (rest := []) (lenOf pd_2 rfl) rfl (by show 2 * 0 + _ ≤ _; exact Nat.le_of_eq rfl) (hb hby at_9) (fun _ _ => ⟨rfl, e0, Nat.le_of_ble_eq_true rfl, Nat.le_of_ble_eq_true rfl⟩)
    dsimp only [Pt.U, Pt.locs, Pt.cells, Pt.slots] at X353 l353 y353 z353 st353 hQ353
    rw [l353, y353, z353] at X353
    obtain ⟨rfl, rfl, e353⟩ := hQ353
    have X353 : Stand p l e _ s m #[(.int p0)] below meth c T353 [] 0 0 := X353
    refine OGets.step st353 ?_
    show OGets p e below _ (T353.setTop (mkF m 12 #[.val (.int p0), .val (.int (1 : Int32)), .unset, .unset, .unset] [(.ref (A 1))]))
    refine OGets.step (fun _ => XS.astoreN X353.here hx rfl (hb hby at_12) rfl rfl (l' := #[.val (.int p0), .val (.int (1 : Int32)), .val (.ref (A 1)), .unset, .unset]) rfl) ?_
    show OGets p e below _ (T353.setTop (mkF m 13 #[.val (.int p0), .val (.int (1 : Int32)), .val (.ref (A 1)), .unset, .unset] []))
    refine OGets.step (fun _ => XS.aloadN X353.here hx rfl (hb hby at_13) rfl rfl) ?_
    show OGets p e below _ (T353.setTop (mkF m 14 #[.val (.int p0), .val (.int (1 : Int32)), .val (.ref (A 1)), .unset, .unset] [(.ref (A 1))]))
    obtain ⟨cq354, kq354, q354a, q354b, q354c⟩ := isOf hZ e353 (show Exa Z h0 (A 1) "com/example/pelt/pelt/Axis$2" from hE 1 (by decide))
    obtain ⟨_, _, ⟨T354, L354, k354, n354⟩, -, X354, ⟨Lc354, hQ354, l354, y354, z354⟩, st354⟩ := X353.virtualBack hx (y := (⟨"com/example/pelt/pelt/Axis", "listsOverlap", "()Z"⟩ : MethodName)) (z := (⟨"com/example/pelt/pelt/Axis", "listsOverlap", "()Z"⟩ : MethodName)) hown (mvT hZ (hw _ (List.mem_of_getElem? (i := 8) rfl))) (mvT hZ (hw _ (List.mem_of_getElem? (i := 9) rfl))) (notFace_of_selects (args := #[]) (mvT hZ (hw _ (List.mem_of_getElem? (i := 63) rfl)))) (mvT hZ (hw _ (List.mem_of_getElem? (i := 63) rfl))) (mvT hZ (hw _ (List.mem_of_getElem? (i := 10) rfl))) (by decide) (backOf (W := 0) (rm_lo1 l Z a0 hw [] A h0 n0  Z0 hS hI) hZ (hw _ (List.mem_of_getElem? (i := 12) rfl)) (hw _ (List.mem_of_getElem? (i := 6) rfl)) (by decide) (by decide)) q354a q354c (g := (mkF m 14 #[.val (.int p0), .val (.int (1 : Int32)), .val (.ref (A 1)), .unset, .unset] [(.ref (A 1))])) rfl (by rw [hml]; rfl) (Steps.refl _) (argsL := []) (rest := []) (lenOf pd_3 rfl) rfl (by show 2 * 0 + _ ≤ _; exact Nat.le_of_eq rfl) (hb hby at_14) (fun _ _ => ⟨rfl, e353, Nat.le_of_ble_eq_true rfl, Nat.le_of_ble_eq_true rfl⟩)
    dsimp only [Pt.U, Pt.locs, Pt.cells, Pt.slots] at X354 l354 y354 z354 st354 hQ354
    rw [l354, y354, z354] at X354
    obtain ⟨rfl, rfl, e354⟩ := hQ354
    have X354 : Stand p l e _ s m #[(.int p0)] below meth c T354 [] 0 0 := X354
    refine OGets.after st354 ?_
    show OGets p e below _ (T354.setTop (mkF m 17 #[.val (.int p0), .val (.int (1 : Int32)), .val (.ref (A 1)), .unset, .unset] [(.int (1 : Int32))]))
    refine OGets.step (fun _ => XS.istoreN X354.here hx rfl (hb hby at_17) rfl (l' := #[.val (.int p0), .val (.int (1 : Int32)), .val (.ref (A 1)), .val (.int (1 : Int32)), .unset]) rfl) ?_
    show OGets p e below _ (T354.setTop (mkF m 18 #[.val (.int p0), .val (.int (1 : Int32)), .val (.ref (A 1)), .val (.int (1 : Int32)), .unset] []))
    refine OGets.step (fun _ => XS.aloadN X354.here hx rfl (hb hby at_18) rfl rfl) ?_
    show OGets p e below _ (T354.setTop (mkF m 19 #[.val (.int p0), .val (.int (1 : Int32)), .val (.ref (A 1)), .val (.int (1 : Int32)), .unset] [(.ref (A 1))]))
    obtain ⟨cq355, kq355, q355a, q355b, q355c⟩ := isOf hZ e354 (show Exa Z h0 (A 1) "com/example/pelt/pelt/Axis$2" from hE 1 (by decide))
    obtain ⟨_, _, ⟨T355, L355, k355, n355⟩, -, X355, ⟨Lc355, hQ355, l355, y355, z355⟩, st355⟩ := X354.virtualBack hx (y := (⟨"com/example/pelt/pelt/Axis", "isReverse", "()Z"⟩ : MethodName)) (z := (⟨"com/example/pelt/pelt/Axis", "isReverse", "()Z"⟩ : MethodName)) hown (mvT hZ (hw _ (List.mem_of_getElem? (i := 23) rfl))) (mvT hZ (hw _ (List.mem_of_getElem? (i := 24) rfl))) (notFace_of_selects (args := #[]) (mvT hZ (hw _ (List.mem_of_getElem? (i := 64) rfl)))) (mvT hZ (hw _ (List.mem_of_getElem? (i := 64) rfl))) (mvT hZ (hw _ (List.mem_of_getElem? (i := 25) rfl))) (by decide) (backOf (W := 0) (rm_rv1 l Z a0 hw [] A h0 n0  Z0 hS hI) hZ (hw _ (List.mem_of_getElem? (i := 27) rfl)) (hw _ (List.mem_of_getElem? (i := 6) rfl)) (by decide) (by decide)) q355a q355c (g := (mkF m 19 #[.val (.int p0), .val (.int (1 : Int32)), .val (.ref (A 1)), .val (.int (1 : Int32)), .unset] [(.ref (A 1))])) rfl (by rw [hml]; rfl) (Steps.refl _) (argsL := []) (rest := []) (lenOf pd_3 rfl) rfl (by show 2 * 0 + _ ≤ _; exact Nat.le_of_eq rfl) (hb hby at_19) (fun _ _ => ⟨rfl, e354, Nat.le_of_ble_eq_true rfl, Nat.le_of_ble_eq_true rfl⟩)
    dsimp only [Pt.U, Pt.locs, Pt.cells, Pt.slots] at X355 l355 y355 z355 st355 hQ355
    rw [l355, y355, z355] at X355
    obtain ⟨rfl, rfl, e355⟩ := hQ355
    have X355 : Stand p l e _ s m #[(.int p0)] below meth c T355 [] 0 0 := X355
    refine OGets.after st355 ?_
    show OGets p e below _ (T355.setTop (mkF m 22 #[.val (.int p0), .val (.int (1 : Int32)), .val (.ref (A 1)), .val (.int (1 : Int32)), .unset] [(.int (1 : Int32))]))
    refine OGets.step (fun _ => XS.ifNo X355.here hx rfl (hb hby at_22) rfl ((if0 _ _).trans (feq (by decide : ¬ ((1 : Int32) = (0 : Int32)))).1)) ?_
    show OGets p e below _ (T355.setTop (mkF m 25 #[.val (.int p0), .val (.int (1 : Int32)), .val (.ref (A 1)), .val (.int (1 : Int32)), .unset] []))
    refine OGets.step (fun _ => XS.iloadN X355.here hx rfl (hb hby at_25) rfl) ?_
    show OGets p e below _ (T355.setTop (mkF m 26 #[.val (.int p0), .val (.int (1 : Int32)), .val (.ref (A 1)), .val (.int (1 : Int32)), .unset] [(.int (1 : Int32))]))
    refine OGets.step (fun _ => XS.ifNo X355.here hx rfl (hb hby at_26) rfl ((if0 _ _).trans (feq (by decide : ¬ ((1 : Int32) = (0 : Int32)))).1)) ?_
    show OGets p e below _ (T355.setTop (mkF m 29 #[.val (.int p0), .val (.int (1 : Int32)), .val (.ref (A 1)), .val (.int (1 : Int32)), .unset] []))
    refine OGets.step (fun _ => XS.iconst X355.here hx rfl (hb hby at_29)) ?_
    show OGets p e below _ (T355.setTop (mkF m 30 #[.val (.int p0), .val (.int (1 : Int32)), .val (.ref (A 1)), .val (.int (1 : Int32)), .unset] [(.int (1 : Int32))]))
    refine OGets.step (fun _ => XS.goto X355.here hx rfl (pc0 := 30) (pc' := 34) rfl (hb hby at_30) (by decide) (by decide)) ?_
    show OGets p e below _ (T355.setTop (mkF m 34 #[.val (.int p0), .val (.int (1 : Int32)), .val (.ref (A 1)), .val (.int (1 : Int32)), .unset] [(.int (1 : Int32))]))
    refine OGets.step (fun _ => XS.istore X355.here hx rfl (hb hby at_34) rfl (l' := #[.val (.int p0), .val (.int (1 : Int32)), .val (.ref (A 1)), .val (.int (1 : Int32)), .val (.int (1 : Int32))]) rfl) ?_
    show OGets p e below _ (T355.setTop (mkF m 36 #[.val (.int p0), .val (.int (1 : Int32)), .val (.ref (A 1)), .val (.int (1 : Int32)), .val (.int (1 : Int32))] []))
    refine OGets.step (fun _ => XS.iloadN X355.here hx rfl (hb hby at_36) rfl) ?_
    show OGets p e below _ (T355.setTop (mkF m 37 #[.val (.int p0), .val (.int (1 : Int32)), .val (.ref (A 1)), .val (.int (1 : Int32)), .val (.int (1 : Int32))] [(.int (1 : Int32))]))
    refine OGets.step (fun _ => XS.iloadN X355.here hx rfl (hb hby at_37) rfl) ?_
    show OGets p e below _ (T355.setTop (mkF m 38 #[.val (.int p0), .val (.int (1 : Int32)), .val (.ref (A 1)), .val (.int (1 : Int32)), .val (.int (1 : Int32))] [(.int (1 : Int32)), (.int (1 : Int32))]))
    obtain ⟨_, _, ⟨T358, L358, k358, n358⟩, -, X358, ⟨Lc358, hQ358, l358, y358, z358⟩, st358⟩ := Jvm.LawKit.callS X355 hx (y := (⟨"com/example/pelt/pelt/AxisListsOverlapPinLaw", "expected", "(I)Z"⟩ : MethodName)) hown (mvT hZ (hw _ (List.mem_of_getElem? (i := 29) rfl))) (mvT hZ (hw _ (List.mem_of_getElem? (i := 30) rfl))) (mvT hZ (hw _ (List.mem_of_getElem? (i := 3) rfl))) (mvT hZ (hw _ (List.mem_of_getElem? (i := 31) rfl))) (by decide) (backOf (W := 1) (rm_ex1 l Z a0 hw []  h0 n0  Z0 ) hZ (hw _ (List.mem_of_getElem? (i := 31) rfl)) (hw _ (List.mem_of_getElem? (i := 3) rfl)) (by decide) (by decide)) (g := (mkF m 38 #[.val (.int p0), .val (.int (1 : Int32)), .val (.ref (A 1)), .val (.int (1 : Int32)), .val (.int (1 : Int32))] [(.int (1 : Int32)), (.int (1 : Int32))])) rfl (by rw [hml]; rfl) (argsL := [(.int (1 : Int32))]) (rest := [(.int (1 : Int32))]) (lenOf pd_4 rfl) rfl (by show 2 * 0 + _ ≤ _; exact Nat.le_of_eq rfl) (hb hby at_38) (fun _ _ => ⟨rfl, e355, Nat.le_of_ble_eq_true rfl, Nat.le_of_ble_eq_true rfl⟩)
    dsimp only [Pt.U, Pt.locs, Pt.cells, Pt.slots] at X358 l358 y358 z358 st358 hQ358
    rw [l358, y358, z358] at X358
    obtain ⟨rfl, rfl, e358⟩ := hQ358
    have X358 : Stand p l e _ s m #[(.int p0)] below meth c T358 [] 0 0 := X358
    refine OGets.step st358 ?_
    show OGets p e below _ (T358.setTop (mkF m 41 #[.val (.int p0), .val (.int (1 : Int32)), .val (.ref (A 1)), .val (.int (1 : Int32)), .val (.int (1 : Int32))] [(.int (1 : Int32)), (.int (1 : Int32))]))
    refine OGets.step (fun _ => XS.icmpNo X358.here hx rfl (hb hby at_41) rfl (teq (by decide : (1 : Int32) = (1 : Int32))).2) ?_
    show OGets p e below _ (T358.setTop (mkF m 44 #[.val (.int p0), .val (.int (1 : Int32)), .val (.ref (A 1)), .val (.int (1 : Int32)), .val (.int (1 : Int32))] []))
    refine OGets.step (fun _ => XS.iload X358.here hx rfl (hb hby at_44) rfl) ?_
    show OGets p e below _ (T358.setTop (mkF m 46 #[.val (.int p0), .val (.int (1 : Int32)), .val (.ref (A 1)), .val (.int (1 : Int32)), .val (.int (1 : Int32))] [(.int (1 : Int32))]))
    refine OGets.step (fun _ => XS.ifNo X358.here hx rfl (hb hby at_46) rfl ((if0 _ _).trans (feq (by decide : ¬ ((1 : Int32) = (0 : Int32)))).1)) ?_
    show OGets p e below _ (T358.setTop (mkF m 49 #[.val (.int p0), .val (.int (1 : Int32)), .val (.ref (A 1)), .val (.int (1 : Int32)), .val (.int (1 : Int32))] []))
    refine OGets.step (fun _ => XS.iconst X358.here hx rfl (hb hby at_49)) ?_
    show OGets p e below _ (T358.setTop (mkF m 50 #[.val (.int p0), .val (.int (1 : Int32)), .val (.ref (A 1)), .val (.int (1 : Int32)), .val (.int (1 : Int32))] [(.int (1 : Int32))]))
    refine OGets.step (fun _ => XS.goto X358.here hx rfl (pc0 := 50) (pc' := 54) rfl (hb hby at_50) (by decide) (by decide)) ?_
    show OGets p e below _ (T358.setTop (mkF m 54 #[.val (.int p0), .val (.int (1 : Int32)), .val (.ref (A 1)), .val (.int (1 : Int32)), .val (.int (1 : Int32))] [(.int (1 : Int32))]))
    refine OGets.retN X358 hx hlk (t := .boolean) Bd.returns (by simp) (hb hby at_54) (Nat.le_of_ble_eq_true rfl) (Nat.le_of_ble_eq_true rfl) ?_
    exact ⟨rfl, N0⟩
  · show OGets p e below _ (s₁.setTop (mkF m 7 #[.val (.int p0), .unset, .unset, .unset, .unset] [(.int (2 : Int32))]))
    refine OGets.step (fun _ => XS.istoreN X0.here hx rfl (hb hby at_7) rfl (l' := #[.val (.int p0), .val (.int (2 : Int32)), .unset, .unset, .unset]) rfl) ?_
    show OGets p e below _ (s₁.setTop (mkF m 8 #[.val (.int p0), .val (.int (2 : Int32)), .unset, .unset, .unset] []))
    refine OGets.step (fun _ => XS.iloadN X0.here hx rfl (hb hby at_8) rfl) ?_
    show OGets p e below _ (s₁.setTop (mkF m 9 #[.val (.int p0), .val (.int (2 : Int32)), .unset, .unset, .unset] [(.int (2 : Int32))]))
    obtain ⟨_, _, ⟨T361, L361, k361, n361⟩, -, X361, ⟨Lc361, hQ361, l361, y361, z361⟩, st361⟩ := Jvm.LawKit.callS X0 hx (y := (⟨"com/example/pelt/pelt/AxisListsOverlapPinLaw", "pick", "(I)Lcom/example/pelt/pelt/Axis;"⟩ : MethodName)) hown (mvT hZ (hw _ (List.mem_of_getElem? (i := 1) rfl))) (mvT hZ (hw _ (List.mem_of_getElem? (i := 2) rfl))) (mvT hZ (hw _ (List.mem_of_getElem? (i := 3) rfl))) (mvT hZ (hw _ (List.mem_of_getElem? (i := 4) rfl))) (by decide) (backOf (W := 0) (rm_pk2 l Z a0 hw [] A h0 n0  Z0 hS hI) hZ (hw _ (List.mem_of_getElem? (i := 4) rfl)) (hw _ (List.mem_of_getElem? (i := 3) rfl)) (by decide) (by decide)) (g := (mkF m 9 #[.val (.int p0), .val (.int (2 : Int32)), .unset, .unset, .unset] [(.int (2 : Int32))])) rfl (by rw [hml]; rfl) (argsL := [(.int (2 : Int32))]) (rest := []) (lenOf pd_2 rfl) rfl (by show 2 * 0 + _ ≤ _; exact Nat.le_of_eq rfl) (hb hby at_9) (fun _ _ => ⟨rfl, e0, Nat.le_of_ble_eq_true rfl, Nat.le_of_ble_eq_true rfl⟩)
    dsimp only [Pt.U, Pt.locs, Pt.cells, Pt.slots] at X361 l361 y361 z361 st361 hQ361
    rw [l361, y361, z361] at X361
    obtain ⟨rfl, rfl, e361⟩ := hQ361
    have X361 : Stand p l e _ s m #[(.int p0)] below meth c T361 [] 0 0 := X361
    refine OGets.step st361 ?_
    show OGets p e below _ (T361.setTop (mkF m 12 #[.val (.int p0), .val (.int (2 : Int32)), .unset, .unset, .unset] [(.ref (A 2))]))
    refine OGets.step (fun _ => XS.astoreN X361.here hx rfl (hb hby at_12) rfl rfl (l' := #[.val (.int p0), .val (.int (2 : Int32)), .val (.ref (A 2)), .unset, .unset]) rfl) ?_
    show OGets p e below _ (T361.setTop (mkF m 13 #[.val (.int p0), .val (.int (2 : Int32)), .val (.ref (A 2)), .unset, .unset] []))
    refine OGets.step (fun _ => XS.aloadN X361.here hx rfl (hb hby at_13) rfl rfl) ?_
    show OGets p e below _ (T361.setTop (mkF m 14 #[.val (.int p0), .val (.int (2 : Int32)), .val (.ref (A 2)), .unset, .unset] [(.ref (A 2))]))
    obtain ⟨cq362, kq362, q362a, q362b, q362c⟩ := isOf hZ e361 (show Exa Z h0 (A 2) "com/example/pelt/pelt/Axis$3" from hE 2 (by decide))
    obtain ⟨_, _, ⟨T362, L362, k362, n362⟩, -, X362, ⟨Lc362, hQ362, l362, y362, z362⟩, st362⟩ := X361.virtualBack hx (y := (⟨"com/example/pelt/pelt/Axis", "listsOverlap", "()Z"⟩ : MethodName)) (z := (⟨"com/example/pelt/pelt/Axis", "listsOverlap", "()Z"⟩ : MethodName)) hown (mvT hZ (hw _ (List.mem_of_getElem? (i := 8) rfl))) (mvT hZ (hw _ (List.mem_of_getElem? (i := 9) rfl))) (notFace_of_selects (args := #[]) (mvT hZ (hw _ (List.mem_of_getElem? (i := 57) rfl)))) (mvT hZ (hw _ (List.mem_of_getElem? (i := 57) rfl))) (mvT hZ (hw _ (List.mem_of_getElem? (i := 10) rfl))) (by decide) (backOf (W := 0) (rm_lo2 l Z a0 hw [] A h0 n0  Z0 hS hI) hZ (hw _ (List.mem_of_getElem? (i := 12) rfl)) (hw _ (List.mem_of_getElem? (i := 6) rfl)) (by decide) (by decide)) q362a q362c (g := (mkF m 14 #[.val (.int p0), .val (.int (2 : Int32)), .val (.ref (A 2)), .unset, .unset] [(.ref (A 2))])) rfl (by rw [hml]; rfl) (Steps.refl _) (argsL := []) (rest := []) (lenOf pd_3 rfl) rfl (by show 2 * 0 + _ ≤ _; exact Nat.le_of_eq rfl) (hb hby at_14) (fun _ _ => ⟨rfl, e361, Nat.le_of_ble_eq_true rfl, Nat.le_of_ble_eq_true rfl⟩)
    dsimp only [Pt.U, Pt.locs, Pt.cells, Pt.slots] at X362 l362 y362 z362 st362 hQ362
    rw [l362, y362, z362] at X362
    obtain ⟨rfl, rfl, e362⟩ := hQ362
    have X362 : Stand p l e _ s m #[(.int p0)] below meth c T362 [] 0 0 := X362
    refine OGets.after st362 ?_
    show OGets p e below _ (T362.setTop (mkF m 17 #[.val (.int p0), .val (.int (2 : Int32)), .val (.ref (A 2)), .unset, .unset] [(.int (0 : Int32))]))
    refine OGets.step (fun _ => XS.istoreN X362.here hx rfl (hb hby at_17) rfl (l' := #[.val (.int p0), .val (.int (2 : Int32)), .val (.ref (A 2)), .val (.int (0 : Int32)), .unset]) rfl) ?_
    show OGets p e below _ (T362.setTop (mkF m 18 #[.val (.int p0), .val (.int (2 : Int32)), .val (.ref (A 2)), .val (.int (0 : Int32)), .unset] []))
    refine OGets.step (fun _ => XS.aloadN X362.here hx rfl (hb hby at_18) rfl rfl) ?_
    show OGets p e below _ (T362.setTop (mkF m 19 #[.val (.int p0), .val (.int (2 : Int32)), .val (.ref (A 2)), .val (.int (0 : Int32)), .unset] [(.ref (A 2))]))
    obtain ⟨cq363, kq363, q363a, q363b, q363c⟩ := isOf hZ e362 (show Exa Z h0 (A 2) "com/example/pelt/pelt/Axis$3" from hE 2 (by decide))
    obtain ⟨_, _, ⟨T363, L363, k363, n363⟩, -, X363, ⟨Lc363, hQ363, l363, y363, z363⟩, st363⟩ := X362.virtualBack hx (y := (⟨"com/example/pelt/pelt/Axis", "isReverse", "()Z"⟩ : MethodName)) (z := (⟨"com/example/pelt/pelt/Axis", "isReverse", "()Z"⟩ : MethodName)) hown (mvT hZ (hw _ (List.mem_of_getElem? (i := 23) rfl))) (mvT hZ (hw _ (List.mem_of_getElem? (i := 24) rfl))) (notFace_of_selects (args := #[]) (mvT hZ (hw _ (List.mem_of_getElem? (i := 58) rfl)))) (mvT hZ (hw _ (List.mem_of_getElem? (i := 58) rfl))) (mvT hZ (hw _ (List.mem_of_getElem? (i := 25) rfl))) (by decide) (backOf (W := 0) (rm_rv2 l Z a0 hw [] A h0 n0  Z0 hS hI) hZ (hw _ (List.mem_of_getElem? (i := 27) rfl)) (hw _ (List.mem_of_getElem? (i := 6) rfl)) (by decide) (by decide)) q363a q363c (g := (mkF m 19 #[.val (.int p0), .val (.int (2 : Int32)), .val (.ref (A 2)), .val (.int (0 : Int32)), .unset] [(.ref (A 2))])) rfl (by rw [hml]; rfl) (Steps.refl _) (argsL := []) (rest := []) (lenOf pd_3 rfl) rfl (by show 2 * 0 + _ ≤ _; exact Nat.le_of_eq rfl) (hb hby at_19) (fun _ _ => ⟨rfl, e362, Nat.le_of_ble_eq_true rfl, Nat.le_of_ble_eq_true rfl⟩)
    dsimp only [Pt.U, Pt.locs, Pt.cells, Pt.slots] at X363 l363 y363 z363 st363 hQ363
    rw [l363, y363, z363] at X363
    obtain ⟨rfl, rfl, e363⟩ := hQ363
    have X363 : Stand p l e _ s m #[(.int p0)] below meth c T363 [] 0 0 := X363
    refine OGets.after st363 ?_
    show OGets p e below _ (T363.setTop (mkF m 22 #[.val (.int p0), .val (.int (2 : Int32)), .val (.ref (A 2)), .val (.int (0 : Int32)), .unset] [(.int (0 : Int32))]))
    refine OGets.step (fun _ => XS.ifYes X363.here hx rfl (pc0 := 22) (pc' := 29) rfl (hb hby at_22) rfl ((if0 _ _).trans (teq (by decide : (0 : Int32) = (0 : Int32))).1) (by decide) (by decide)) ?_
    show OGets p e below _ (T363.setTop (mkF m 29 #[.val (.int p0), .val (.int (2 : Int32)), .val (.ref (A 2)), .val (.int (0 : Int32)), .unset] []))
    refine OGets.step (fun _ => XS.iconst X363.here hx rfl (hb hby at_29)) ?_
    show OGets p e below _ (T363.setTop (mkF m 30 #[.val (.int p0), .val (.int (2 : Int32)), .val (.ref (A 2)), .val (.int (0 : Int32)), .unset] [(.int (1 : Int32))]))
    refine OGets.step (fun _ => XS.goto X363.here hx rfl (pc0 := 30) (pc' := 34) rfl (hb hby at_30) (by decide) (by decide)) ?_
    show OGets p e below _ (T363.setTop (mkF m 34 #[.val (.int p0), .val (.int (2 : Int32)), .val (.ref (A 2)), .val (.int (0 : Int32)), .unset] [(.int (1 : Int32))]))
    refine OGets.step (fun _ => XS.istore X363.here hx rfl (hb hby at_34) rfl (l' := #[.val (.int p0), .val (.int (2 : Int32)), .val (.ref (A 2)), .val (.int (0 : Int32)), .val (.int (1 : Int32))]) rfl) ?_
    show OGets p e below _ (T363.setTop (mkF m 36 #[.val (.int p0), .val (.int (2 : Int32)), .val (.ref (A 2)), .val (.int (0 : Int32)), .val (.int (1 : Int32))] []))
    refine OGets.step (fun _ => XS.iloadN X363.here hx rfl (hb hby at_36) rfl) ?_
    show OGets p e below _ (T363.setTop (mkF m 37 #[.val (.int p0), .val (.int (2 : Int32)), .val (.ref (A 2)), .val (.int (0 : Int32)), .val (.int (1 : Int32))] [(.int (0 : Int32))]))
    refine OGets.step (fun _ => XS.iloadN X363.here hx rfl (hb hby at_37) rfl) ?_
    show OGets p e below _ (T363.setTop (mkF m 38 #[.val (.int p0), .val (.int (2 : Int32)), .val (.ref (A 2)), .val (.int (0 : Int32)), .val (.int (1 : Int32))] [(.int (2 : Int32)), (.int (0 : Int32))]))
    obtain ⟨_, _, ⟨T365, L365, k365, n365⟩, -, X365, ⟨Lc365, hQ365, l365, y365, z365⟩, st365⟩ := Jvm.LawKit.callS X363 hx (y := (⟨"com/example/pelt/pelt/AxisListsOverlapPinLaw", "expected", "(I)Z"⟩ : MethodName)) hown (mvT hZ (hw _ (List.mem_of_getElem? (i := 29) rfl))) (mvT hZ (hw _ (List.mem_of_getElem? (i := 30) rfl))) (mvT hZ (hw _ (List.mem_of_getElem? (i := 3) rfl))) (mvT hZ (hw _ (List.mem_of_getElem? (i := 31) rfl))) (by decide) (backOf (W := 1) (rm_ex2 l Z a0 hw []  h0 n0  Z0 ) hZ (hw _ (List.mem_of_getElem? (i := 31) rfl)) (hw _ (List.mem_of_getElem? (i := 3) rfl)) (by decide) (by decide)) (g := (mkF m 38 #[.val (.int p0), .val (.int (2 : Int32)), .val (.ref (A 2)), .val (.int (0 : Int32)), .val (.int (1 : Int32))] [(.int (2 : Int32)), (.int (0 : Int32))])) rfl (by rw [hml]; rfl) (argsL := [(.int (2 : Int32))]) (rest := [(.int (0 : Int32))]) (lenOf pd_4 rfl) rfl (by show 2 * 0 + _ ≤ _; exact Nat.le_of_eq rfl) (hb hby at_38) (fun _ _ => ⟨rfl, e363, Nat.le_of_ble_eq_true rfl, Nat.le_of_ble_eq_true rfl⟩)
    dsimp only [Pt.U, Pt.locs, Pt.cells, Pt.slots] at X365 l365 y365 z365 st365 hQ365
    rw [l365, y365, z365] at X365
    obtain ⟨rfl, rfl, e365⟩ := hQ365
    have X365 : Stand p l e _ s m #[(.int p0)] below meth c T365 [] 0 0 := X365
    refine OGets.step st365 ?_
    show OGets p e below _ (T365.setTop (mkF m 41 #[.val (.int p0), .val (.int (2 : Int32)), .val (.ref (A 2)), .val (.int (0 : Int32)), .val (.int (1 : Int32))] [(.int (0 : Int32)), (.int (0 : Int32))]))
    refine OGets.step (fun _ => XS.icmpNo X365.here hx rfl (hb hby at_41) rfl (teq (by decide : (0 : Int32) = (0 : Int32))).2) ?_
    show OGets p e below _ (T365.setTop (mkF m 44 #[.val (.int p0), .val (.int (2 : Int32)), .val (.ref (A 2)), .val (.int (0 : Int32)), .val (.int (1 : Int32))] []))
    refine OGets.step (fun _ => XS.iload X365.here hx rfl (hb hby at_44) rfl) ?_
    show OGets p e below _ (T365.setTop (mkF m 46 #[.val (.int p0), .val (.int (2 : Int32)), .val (.ref (A 2)), .val (.int (0 : Int32)), .val (.int (1 : Int32))] [(.int (1 : Int32))]))
    refine OGets.step (fun _ => XS.ifNo X365.here hx rfl (hb hby at_46) rfl ((if0 _ _).trans (feq (by decide : ¬ ((1 : Int32) = (0 : Int32)))).1)) ?_
    show OGets p e below _ (T365.setTop (mkF m 49 #[.val (.int p0), .val (.int (2 : Int32)), .val (.ref (A 2)), .val (.int (0 : Int32)), .val (.int (1 : Int32))] []))
    refine OGets.step (fun _ => XS.iconst X365.here hx rfl (hb hby at_49)) ?_
    show OGets p e below _ (T365.setTop (mkF m 50 #[.val (.int p0), .val (.int (2 : Int32)), .val (.ref (A 2)), .val (.int (0 : Int32)), .val (.int (1 : Int32))] [(.int (1 : Int32))]))
    refine OGets.step (fun _ => XS.goto X365.here hx rfl (pc0 := 50) (pc' := 54) rfl (hb hby at_50) (by decide) (by decide)) ?_
    show OGets p e below _ (T365.setTop (mkF m 54 #[.val (.int p0), .val (.int (2 : Int32)), .val (.ref (A 2)), .val (.int (0 : Int32)), .val (.int (1 : Int32))] [(.int (1 : Int32))]))
    refine OGets.retN X365 hx hlk (t := .boolean) Bd.returns (by simp) (hb hby at_54) (Nat.le_of_ble_eq_true rfl) (Nat.le_of_ble_eq_true rfl) ?_
    exact ⟨rfl, N0⟩
  · show OGets p e below _ (s₁.setTop (mkF m 7 #[.val (.int p0), .unset, .unset, .unset, .unset] [(.int (3 : Int32))]))
    refine OGets.step (fun _ => XS.istoreN X0.here hx rfl (hb hby at_7) rfl (l' := #[.val (.int p0), .val (.int (3 : Int32)), .unset, .unset, .unset]) rfl) ?_
    show OGets p e below _ (s₁.setTop (mkF m 8 #[.val (.int p0), .val (.int (3 : Int32)), .unset, .unset, .unset] []))
    refine OGets.step (fun _ => XS.iloadN X0.here hx rfl (hb hby at_8) rfl) ?_
    show OGets p e below _ (s₁.setTop (mkF m 9 #[.val (.int p0), .val (.int (3 : Int32)), .unset, .unset, .unset] [(.int (3 : Int32))]))
    obtain ⟨_, _, ⟨T368, L368, k368, n368⟩, -, X368, ⟨Lc368, hQ368, l368, y368, z368⟩, st368⟩ := Jvm.LawKit.callS X0 hx (y := (⟨"com/example/pelt/pelt/AxisListsOverlapPinLaw", "pick", "(I)Lcom/example/pelt/pelt/Axis;"⟩ : MethodName)) hown (mvT hZ (hw _ (List.mem_of_getElem? (i := 1) rfl))) (mvT hZ (hw _ (List.mem_of_getElem? (i := 2) rfl))) (mvT hZ (hw _ (List.mem_of_getElem? (i := 3) rfl))) (mvT hZ (hw _ (List.mem_of_getElem? (i := 4) rfl))) (by decide) (backOf (W := 0) (rm_pk3 l Z a0 hw [] A h0 n0  Z0 hS hI) hZ (hw _ (List.mem_of_getElem? (i := 4) rfl)) (hw _ (List.mem_of_getElem? (i := 3) rfl)) (by decide) (by decide)) (g := (mkF m 9 #[.val (.int p0), .val (.int (3 : Int32)), .unset, .unset, .unset] [(.int (3 : Int32))])) rfl (by rw [hml]; rfl) (argsL := [(.int (3 : Int32))]) (rest := []) (lenOf pd_2 rfl) rfl (by show 2 * 0 + _ ≤ _; exact Nat.le_of_eq rfl) (hb hby at_9) (fun _ _ => ⟨rfl, e0, Nat.le_of_ble_eq_true rfl, Nat.le_of_ble_eq_true rfl⟩)
    dsimp only [Pt.U, Pt.locs, Pt.cells, Pt.slots] at X368 l368 y368 z368 st368 hQ368
    rw [l368, y368, z368] at X368
    obtain ⟨rfl, rfl, e368⟩ := hQ368
    have X368 : Stand p l e _ s m #[(.int p0)] below meth c T368 [] 0 0 := X368
    refine OGets.step st368 ?_
    show OGets p e below _ (T368.setTop (mkF m 12 #[.val (.int p0), .val (.int (3 : Int32)), .unset, .unset, .unset] [(.ref (A 3))]))
    refine OGets.step (fun _ => XS.astoreN X368.here hx rfl (hb hby at_12) rfl rfl (l' := #[.val (.int p0), .val (.int (3 : Int32)), .val (.ref (A 3)), .unset, .unset]) rfl) ?_
    show OGets p e below _ (T368.setTop (mkF m 13 #[.val (.int p0), .val (.int (3 : Int32)), .val (.ref (A 3)), .unset, .unset] []))
    refine OGets.step (fun _ => XS.aloadN X368.here hx rfl (hb hby at_13) rfl rfl) ?_
    show OGets p e below _ (T368.setTop (mkF m 14 #[.val (.int p0), .val (.int (3 : Int32)), .val (.ref (A 3)), .unset, .unset] [(.ref (A 3))]))
    obtain ⟨cq369, kq369, q369a, q369b, q369c⟩ := isOf hZ e368 (show Exa Z h0 (A 3) "com/example/pelt/pelt/Axis$4" from hE 3 (by decide))
    obtain ⟨_, _, ⟨T369, L369, k369, n369⟩, -, X369, ⟨Lc369, hQ369, l369, y369, z369⟩, st369⟩ := X368.virtualBack hx (y := (⟨"com/example/pelt/pelt/Axis", "listsOverlap", "()Z"⟩ : MethodName)) (z := (⟨"com/example/pelt/pelt/Axis", "listsOverlap", "()Z"⟩ : MethodName)) hown (mvT hZ (hw _ (List.mem_of_getElem? (i := 8) rfl))) (mvT hZ (hw _ (List.mem_of_getElem? (i := 9) rfl))) (notFace_of_selects (args := #[]) (mvT hZ (hw _ (List.mem_of_getElem? (i := 33) rfl)))) (mvT hZ (hw _ (List.mem_of_getElem? (i := 33) rfl))) (mvT hZ (hw _ (List.mem_of_getElem? (i := 10) rfl))) (by decide) (backOf (W := 0) (rm_lo3 l Z a0 hw [] A h0 n0  Z0 hS hI) hZ (hw _ (List.mem_of_getElem? (i := 12) rfl)) (hw _ (List.mem_of_getElem? (i := 6) rfl)) (by decide) (by decide)) q369a q369c (g := (mkF m 14 #[.val (.int p0), .val (.int (3 : Int32)), .val (.ref (A 3)), .unset, .unset] [(.ref (A 3))])) rfl (by rw [hml]; rfl) (Steps.refl _) (argsL := []) (rest := []) (lenOf pd_3 rfl) rfl (by show 2 * 0 + _ ≤ _; exact Nat.le_of_eq rfl) (hb hby at_14) (fun _ _ => ⟨rfl, e368, Nat.le_of_ble_eq_true rfl, Nat.le_of_ble_eq_true rfl⟩)
    dsimp only [Pt.U, Pt.locs, Pt.cells, Pt.slots] at X369 l369 y369 z369 st369 hQ369
    rw [l369, y369, z369] at X369
    obtain ⟨rfl, rfl, e369⟩ := hQ369
    have X369 : Stand p l e _ s m #[(.int p0)] below meth c T369 [] 0 0 := X369
    refine OGets.after st369 ?_
    show OGets p e below _ (T369.setTop (mkF m 17 #[.val (.int p0), .val (.int (3 : Int32)), .val (.ref (A 3)), .unset, .unset] [(.int (0 : Int32))]))
    refine OGets.step (fun _ => XS.istoreN X369.here hx rfl (hb hby at_17) rfl (l' := #[.val (.int p0), .val (.int (3 : Int32)), .val (.ref (A 3)), .val (.int (0 : Int32)), .unset]) rfl) ?_
    show OGets p e below _ (T369.setTop (mkF m 18 #[.val (.int p0), .val (.int (3 : Int32)), .val (.ref (A 3)), .val (.int (0 : Int32)), .unset] []))
    refine OGets.step (fun _ => XS.aloadN X369.here hx rfl (hb hby at_18) rfl rfl) ?_
    show OGets p e below _ (T369.setTop (mkF m 19 #[.val (.int p0), .val (.int (3 : Int32)), .val (.ref (A 3)), .val (.int (0 : Int32)), .unset] [(.ref (A 3))]))
    obtain ⟨cq370, kq370, q370a, q370b, q370c⟩ := isOf hZ e369 (show Exa Z h0 (A 3) "com/example/pelt/pelt/Axis$4" from hE 3 (by decide))
    obtain ⟨_, _, ⟨T370, L370, k370, n370⟩, -, X370, ⟨Lc370, hQ370, l370, y370, z370⟩, st370⟩ := X369.virtualBack hx (y := (⟨"com/example/pelt/pelt/Axis", "isReverse", "()Z"⟩ : MethodName)) (z := (⟨"com/example/pelt/pelt/Axis", "isReverse", "()Z"⟩ : MethodName)) hown (mvT hZ (hw _ (List.mem_of_getElem? (i := 23) rfl))) (mvT hZ (hw _ (List.mem_of_getElem? (i := 24) rfl))) (notFace_of_selects (args := #[]) (mvT hZ (hw _ (List.mem_of_getElem? (i := 34) rfl)))) (mvT hZ (hw _ (List.mem_of_getElem? (i := 34) rfl))) (mvT hZ (hw _ (List.mem_of_getElem? (i := 25) rfl))) (by decide) (backOf (W := 0) (rm_rv3 l Z a0 hw [] A h0 n0  Z0 hS hI) hZ (hw _ (List.mem_of_getElem? (i := 27) rfl)) (hw _ (List.mem_of_getElem? (i := 6) rfl)) (by decide) (by decide)) q370a q370c (g := (mkF m 19 #[.val (.int p0), .val (.int (3 : Int32)), .val (.ref (A 3)), .val (.int (0 : Int32)), .unset] [(.ref (A 3))])) rfl (by rw [hml]; rfl) (Steps.refl _) (argsL := []) (rest := []) (lenOf pd_3 rfl) rfl (by show 2 * 0 + _ ≤ _; exact Nat.le_of_eq rfl) (hb hby at_19) (fun _ _ => ⟨rfl, e369, Nat.le_of_ble_eq_true rfl, Nat.le_of_ble_eq_true rfl⟩)
    dsimp only [Pt.U, Pt.locs, Pt.cells, Pt.slots] at X370 l370 y370 z370 st370 hQ370
    rw [l370, y370, z370] at X370
    obtain ⟨rfl, rfl, e370⟩ := hQ370
    have X370 : Stand p l e _ s m #[(.int p0)] below meth c T370 [] 0 0 := X370
    refine OGets.after st370 ?_
    show OGets p e below _ (T370.setTop (mkF m 22 #[.val (.int p0), .val (.int (3 : Int32)), .val (.ref (A 3)), .val (.int (0 : Int32)), .unset] [(.int (0 : Int32))]))
    refine OGets.step (fun _ => XS.ifYes X370.here hx rfl (pc0 := 22) (pc' := 29) rfl (hb hby at_22) rfl ((if0 _ _).trans (teq (by decide : (0 : Int32) = (0 : Int32))).1) (by decide) (by decide)) ?_
    show OGets p e below _ (T370.setTop (mkF m 29 #[.val (.int p0), .val (.int (3 : Int32)), .val (.ref (A 3)), .val (.int (0 : Int32)), .unset] []))
    refine OGets.step (fun _ => XS.iconst X370.here hx rfl (hb hby at_29)) ?_
    show OGets p e below _ (T370.setTop (mkF m 30 #[.val (.int p0), .val (.int (3 : Int32)), .val (.ref (A 3)), .val (.int (0 : Int32)), .unset] [(.int (1 : Int32))]))
    refine OGets.step (fun _ => XS.goto X370.here hx rfl (pc0 := 30) (pc' := 34) rfl (hb hby at_30) (by decide) (by decide)) ?_
    show OGets p e below _ (T370.setTop (mkF m 34 #[.val (.int p0), .val (.int (3 : Int32)), .val (.ref (A 3)), .val (.int (0 : Int32)), .unset] [(.int (1 : Int32))]))
    refine OGets.step (fun _ => XS.istore X370.here hx rfl (hb hby at_34) rfl (l' := #[.val (.int p0), .val (.int (3 : Int32)), .val (.ref (A 3)), .val (.int (0 : Int32)), .val (.int (1 : Int32))]) rfl) ?_
    show OGets p e below _ (T370.setTop (mkF m 36 #[.val (.int p0), .val (.int (3 : Int32)), .val (.ref (A 3)), .val (.int (0 : Int32)), .val (.int (1 : Int32))] []))
    refine OGets.step (fun _ => XS.iloadN X370.here hx rfl (hb hby at_36) rfl) ?_
    show OGets p e below _ (T370.setTop (mkF m 37 #[.val (.int p0), .val (.int (3 : Int32)), .val (.ref (A 3)), .val (.int (0 : Int32)), .val (.int (1 : Int32))] [(.int (0 : Int32))]))
    refine OGets.step (fun _ => XS.iloadN X370.here hx rfl (hb hby at_37) rfl) ?_
    show OGets p e below _ (T370.setTop (mkF m 38 #[.val (.int p0), .val (.int (3 : Int32)), .val (.ref (A 3)), .val (.int (0 : Int32)), .val (.int (1 : Int32))] [(.int (3 : Int32)), (.int (0 : Int32))]))
    obtain ⟨_, _, ⟨T372, L372, k372, n372⟩, -, X372, ⟨Lc372, hQ372, l372, y372, z372⟩, st372⟩ := Jvm.LawKit.callS X370 hx (y := (⟨"com/example/pelt/pelt/AxisListsOverlapPinLaw", "expected", "(I)Z"⟩ : MethodName)) hown (mvT hZ (hw _ (List.mem_of_getElem? (i := 29) rfl))) (mvT hZ (hw _ (List.mem_of_getElem? (i := 30) rfl))) (mvT hZ (hw _ (List.mem_of_getElem? (i := 3) rfl))) (mvT hZ (hw _ (List.mem_of_getElem? (i := 31) rfl))) (by decide) (backOf (W := 1) (rm_ex3 l Z a0 hw []  h0 n0  Z0 ) hZ (hw _ (List.mem_of_getElem? (i := 31) rfl)) (hw _ (List.mem_of_getElem? (i := 3) rfl)) (by decide) (by decide)) (g := (mkF m 38 #[.val (.int p0), .val (.int (3 : Int32)), .val (.ref (A 3)), .val (.int (0 : Int32)), .val (.int (1 : Int32))] [(.int (3 : Int32)), (.int (0 : Int32))])) rfl (by rw [hml]; rfl) (argsL := [(.int (3 : Int32))]) (rest := [(.int (0 : Int32))]) (lenOf pd_4 rfl) rfl (by show 2 * 0 + _ ≤ _; exact Nat.le_of_eq rfl) (hb hby at_38) (fun _ _ => ⟨rfl, e370, Nat.le_of_ble_eq_true rfl, Nat.le_of_ble_eq_true rfl⟩)
    dsimp only [Pt.U, Pt.locs, Pt.cells, Pt.slots] at X372 l372 y372 z372 st372 hQ372
    rw [l372, y372, z372] at X372
    obtain ⟨rfl, rfl, e372⟩ := hQ372
    have X372 : Stand p l e _ s m #[(.int p0)] below meth c T372 [] 0 0 := X372
    refine OGets.step st372 ?_
    show OGets p e below _ (T372.setTop (mkF m 41 #[.val (.int p0), .val (.int (3 : Int32)), .val (.ref (A 3)), .val (.int (0 : Int32)), .val (.int (1 : Int32))] [(.int (0 : Int32)), (.int (0 : Int32))]))
    refine OGets.step (fun _ => XS.icmpNo X372.here hx rfl (hb hby at_41) rfl (teq (by decide : (0 : Int32) = (0 : Int32))).2) ?_
    show OGets p e below _ (T372.setTop (mkF m 44 #[.val (.int p0), .val (.int (3 : Int32)), .val (.ref (A 3)), .val (.int (0 : Int32)), .val (.int (1 : Int32))] []))
    refine OGets.step (fun _ => XS.iload X372.here hx rfl (hb hby at_44) rfl) ?_
    show OGets p e below _ (T372.setTop (mkF m 46 #[.val (.int p0), .val (.int (3 : Int32)), .val (.ref (A 3)), .val (.int (0 : Int32)), .val (.int (1 : Int32))] [(.int (1 : Int32))]))
    refine OGets.step (fun _ => XS.ifNo X372.here hx rfl (hb hby at_46) rfl ((if0 _ _).trans (feq (by decide : ¬ ((1 : Int32) = (0 : Int32)))).1)) ?_
    show OGets p e below _ (T372.setTop (mkF m 49 #[.val (.int p0), .val (.int (3 : Int32)), .val (.ref (A 3)), .val (.int (0 : Int32)), .val (.int (1 : Int32))] []))
    refine OGets.step (fun _ => XS.iconst X372.here hx rfl (hb hby at_49)) ?_
    show OGets p e below _ (T372.setTop (mkF m 50 #[.val (.int p0), .val (.int (3 : Int32)), .val (.ref (A 3)), .val (.int (0 : Int32)), .val (.int (1 : Int32))] [(.int (1 : Int32))]))
    refine OGets.step (fun _ => XS.goto X372.here hx rfl (pc0 := 50) (pc' := 54) rfl (hb hby at_50) (by decide) (by decide)) ?_
    show OGets p e below _ (T372.setTop (mkF m 54 #[.val (.int p0), .val (.int (3 : Int32)), .val (.ref (A 3)), .val (.int (0 : Int32)), .val (.int (1 : Int32))] [(.int (1 : Int32))]))
    refine OGets.retN X372 hx hlk (t := .boolean) Bd.returns (by simp) (hb hby at_54) (Nat.le_of_ble_eq_true rfl) (Nat.le_of_ble_eq_true rfl) ?_
    exact ⟨rfl, N0⟩
  · show OGets p e below _ (s₁.setTop (mkF m 7 #[.val (.int p0), .unset, .unset, .unset, .unset] [(.int (4 : Int32))]))
    refine OGets.step (fun _ => XS.istoreN X0.here hx rfl (hb hby at_7) rfl (l' := #[.val (.int p0), .val (.int (4 : Int32)), .unset, .unset, .unset]) rfl) ?_
    show OGets p e below _ (s₁.setTop (mkF m 8 #[.val (.int p0), .val (.int (4 : Int32)), .unset, .unset, .unset] []))
    refine OGets.step (fun _ => XS.iloadN X0.here hx rfl (hb hby at_8) rfl) ?_
    show OGets p e below _ (s₁.setTop (mkF m 9 #[.val (.int p0), .val (.int (4 : Int32)), .unset, .unset, .unset] [(.int (4 : Int32))]))
    obtain ⟨_, _, ⟨T375, L375, k375, n375⟩, -, X375, ⟨Lc375, hQ375, l375, y375, z375⟩, st375⟩ := Jvm.LawKit.callS X0 hx (y := (⟨"com/example/pelt/pelt/AxisListsOverlapPinLaw", "pick", "(I)Lcom/example/pelt/pelt/Axis;"⟩ : MethodName)) hown (mvT hZ (hw _ (List.mem_of_getElem? (i := 1) rfl))) (mvT hZ (hw _ (List.mem_of_getElem? (i := 2) rfl))) (mvT hZ (hw _ (List.mem_of_getElem? (i := 3) rfl))) (mvT hZ (hw _ (List.mem_of_getElem? (i := 4) rfl))) (by decide) (backOf (W := 0) (rm_pk4 l Z a0 hw [] A h0 n0  Z0 hS hI) hZ (hw _ (List.mem_of_getElem? (i := 4) rfl)) (hw _ (List.mem_of_getElem? (i := 3) rfl)) (by decide) (by decide)) (g := (mkF m 9 #[.val (.int p0), .val (.int (4 : Int32)), .unset, .unset, .unset] [(.int (4 : Int32))])) rfl (by rw [hml]; rfl) (argsL := [(.int (4 : Int32))]) (rest := []) (lenOf pd_2 rfl) rfl (by show 2 * 0 + _ ≤ _; exact Nat.le_of_eq rfl) (hb hby at_9) (fun _ _ => ⟨rfl, e0, Nat.le_of_ble_eq_true rfl, Nat.le_of_ble_eq_true rfl⟩)
    dsimp only [Pt.U, Pt.locs, Pt.cells, Pt.slots] at X375 l375 y375 z375 st375 hQ375
    rw [l375, y375, z375] at X375
    obtain ⟨rfl, rfl, e375⟩ := hQ375
    have X375 : Stand p l e _ s m #[(.int p0)] below meth c T375 [] 0 0 := X375
    refine OGets.step st375 ?_
    show OGets p e below _ (T375.setTop (mkF m 12 #[.val (.int p0), .val (.int (4 : Int32)), .unset, .unset, .unset] [(.ref (A 4))]))
    refine OGets.step (fun _ => XS.astoreN X375.here hx rfl (hb hby at_12) rfl rfl (l' := #[.val (.int p0), .val (.int (4 : Int32)), .val (.ref (A 4)), .unset, .unset]) rfl) ?_
    show OGets p e below _ (T375.setTop (mkF m 13 #[.val (.int p0), .val (.int (4 : Int32)), .val (.ref (A 4)), .unset, .unset] []))
    refine OGets.step (fun _ => XS.aloadN X375.here hx rfl (hb hby at_13) rfl rfl) ?_
    show OGets p e below _ (T375.setTop (mkF m 14 #[.val (.int p0), .val (.int (4 : Int32)), .val (.ref (A 4)), .unset, .unset] [(.ref (A 4))]))
    obtain ⟨cq376, kq376, q376a, q376b, q376c⟩ := isOf hZ e375 (show Exa Z h0 (A 4) "com/example/pelt/pelt/Axis$5" from hE 4 (by decide))
    obtain ⟨_, _, ⟨T376, L376, k376, n376⟩, -, X376, ⟨Lc376, hQ376, l376, y376, z376⟩, st376⟩ := X375.virtualBack hx (y := (⟨"com/example/pelt/pelt/Axis", "listsOverlap", "()Z"⟩ : MethodName)) (z := (⟨"com/example/pelt/pelt/Axis", "listsOverlap", "()Z"⟩ : MethodName)) hown (mvT hZ (hw _ (List.mem_of_getElem? (i := 8) rfl))) (mvT hZ (hw _ (List.mem_of_getElem? (i := 9) rfl))) (notFace_of_selects (args := #[]) (mvT hZ (hw _ (List.mem_of_getElem? (i := 76) rfl)))) (mvT hZ (hw _ (List.mem_of_getElem? (i := 76) rfl))) (mvT hZ (hw _ (List.mem_of_getElem? (i := 10) rfl))) (by decide) (backOf (W := 0) (rm_lo4 l Z a0 hw [] A h0 n0  Z0 hS hI) hZ (hw _ (List.mem_of_getElem? (i := 12) rfl)) (hw _ (List.mem_of_getElem? (i := 6) rfl)) (by decide) (by decide)) q376a q376c (g := (mkF m 14 #[.val (.int p0), .val (.int (4 : Int32)), .val (.ref (A 4)), .unset, .unset] [(.ref (A 4))])) rfl (by rw [hml]; rfl) (Steps.refl _) (argsL := []) (rest := []) (lenOf pd_3 rfl) rfl (by show 2 * 0 + _ ≤ _; exact Nat.le_of_eq rfl) (hb hby at_14) (fun _ _ => ⟨rfl, e375, Nat.le_of_ble_eq_true rfl, Nat.le_of_ble_eq_true rfl⟩)
    dsimp only [Pt.U, Pt.locs, Pt.cells, Pt.slots] at X376 l376 y376 z376 st376 hQ376
    rw [l376, y376, z376] at X376
    obtain ⟨rfl, rfl, e376⟩ := hQ376
    have X376 : Stand p l e _ s m #[(.int p0)] below meth c T376 [] 0 0 := X376
    refine OGets.after st376 ?_
    show OGets p e below _ (T376.setTop (mkF m 17 #[.val (.int p0), .val (.int (4 : Int32)), .val (.ref (A 4)), .unset, .unset] [(.int (1 : Int32))]))
    refine OGets.step (fun _ => XS.istoreN X376.here hx rfl (hb hby at_17) rfl (l' := #[.val (.int p0), .val (.int (4 : Int32)), .val (.ref (A 4)), .val (.int (1 : Int32)), .unset]) rfl) ?_
    show OGets p e below _ (T376.setTop (mkF m 18 #[.val (.int p0), .val (.int (4 : Int32)), .val (.ref (A 4)), .val (.int (1 : Int32)), .unset] []))
    refine OGets.step (fun _ => XS.aloadN X376.here hx rfl (hb hby at_18) rfl rfl) ?_
    show OGets p e below _ (T376.setTop (mkF m 19 #[.val (.int p0), .val (.int (4 : Int32)), .val (.ref (A 4)), .val (.int (1 : Int32)), .unset] [(.ref (A 4))]))
    obtain ⟨cq377, kq377, q377a, q377b, q377c⟩ := isOf hZ e376 (show Exa Z h0 (A 4) "com/example/pelt/pelt/Axis$5" from hE 4 (by decide))
    obtain ⟨_, _, ⟨T377, L377, k377, n377⟩, -, X377, ⟨Lc377, hQ377, l377, y377, z377⟩, st377⟩ := X376.virtualBack hx (y := (⟨"com/example/pelt/pelt/Axis", "isReverse", "()Z"⟩ : MethodName)) (z := (⟨"com/example/pelt/pelt/Axis", "isReverse", "()Z"⟩ : MethodName)) hown (mvT hZ (hw _ (List.mem_of_getElem? (i := 23) rfl))) (mvT hZ (hw _ (List.mem_of_getElem? (i := 24) rfl))) (notFace_of_selects (args := #[]) (mvT hZ (hw _ (List.mem_of_getElem? (i := 77) rfl)))) (mvT hZ (hw _ (List.mem_of_getElem? (i := 77) rfl))) (mvT hZ (hw _ (List.mem_of_getElem? (i := 25) rfl))) (by decide) (backOf (W := 0) (rm_rv4 l Z a0 hw [] A h0 n0  Z0 hS hI) hZ (hw _ (List.mem_of_getElem? (i := 27) rfl)) (hw _ (List.mem_of_getElem? (i := 6) rfl)) (by decide) (by decide)) q377a q377c (g := (mkF m 19 #[.val (.int p0), .val (.int (4 : Int32)), .val (.ref (A 4)), .val (.int (1 : Int32)), .unset] [(.ref (A 4))])) rfl (by rw [hml]; rfl) (Steps.refl _) (argsL := []) (rest := []) (lenOf pd_3 rfl) rfl (by show 2 * 0 + _ ≤ _; exact Nat.le_of_eq rfl) (hb hby at_19) (fun _ _ => ⟨rfl, e376, Nat.le_of_ble_eq_true rfl, Nat.le_of_ble_eq_true rfl⟩)
    dsimp only [Pt.U, Pt.locs, Pt.cells, Pt.slots] at X377 l377 y377 z377 st377 hQ377
    rw [l377, y377, z377] at X377
    obtain ⟨rfl, rfl, e377⟩ := hQ377
    have X377 : Stand p l e _ s m #[(.int p0)] below meth c T377 [] 0 0 := X377
    refine OGets.after st377 ?_
    show OGets p e below _ (T377.setTop (mkF m 22 #[.val (.int p0), .val (.int (4 : Int32)), .val (.ref (A 4)), .val (.int (1 : Int32)), .unset] [(.int (0 : Int32))]))
    refine OGets.step (fun _ => XS.ifYes X377.here hx rfl (pc0 := 22) (pc' := 29) rfl (hb hby at_22) rfl ((if0 _ _).trans (teq (by decide : (0 : Int32) = (0 : Int32))).1) (by decide) (by decide)) ?_
    show OGets p e below _ (T377.setTop (mkF m 29 #[.val (.int p0), .val (.int (4 : Int32)), .val (.ref (A 4)), .val (.int (1 : Int32)), .unset] []))
    refine OGets.step (fun _ => XS.iconst X377.here hx rfl (hb hby at_29)) ?_
    show OGets p e below _ (T377.setTop (mkF m 30 #[.val (.int p0), .val (.int (4 : Int32)), .val (.ref (A 4)), .val (.int (1 : Int32)), .unset] [(.int (1 : Int32))]))
    refine OGets.step (fun _ => XS.goto X377.here hx rfl (pc0 := 30) (pc' := 34) rfl (hb hby at_30) (by decide) (by decide)) ?_
    show OGets p e below _ (T377.setTop (mkF m 34 #[.val (.int p0), .val (.int (4 : Int32)), .val (.ref (A 4)), .val (.int (1 : Int32)), .unset] [(.int (1 : Int32))]))
    refine OGets.step (fun _ => XS.istore X377.here hx rfl (hb hby at_34) rfl (l' := #[.val (.int p0), .val (.int (4 : Int32)), .val (.ref (A 4)), .val (.int (1 : Int32)), .val (.int (1 : Int32))]) rfl) ?_
    show OGets p e below _ (T377.setTop (mkF m 36 #[.val (.int p0), .val (.int (4 : Int32)), .val (.ref (A 4)), .val (.int (1 : Int32)), .val (.int (1 : Int32))] []))
    refine OGets.step (fun _ => XS.iloadN X377.here hx rfl (hb hby at_36) rfl) ?_
    show OGets p e below _ (T377.setTop (mkF m 37 #[.val (.int p0), .val (.int (4 : Int32)), .val (.ref (A 4)), .val (.int (1 : Int32)), .val (.int (1 : Int32))] [(.int (1 : Int32))]))
    refine OGets.step (fun _ => XS.iloadN X377.here hx rfl (hb hby at_37) rfl) ?_
    show OGets p e below _ (T377.setTop (mkF m 38 #[.val (.int p0), .val (.int (4 : Int32)), .val (.ref (A 4)), .val (.int (1 : Int32)), .val (.int (1 : Int32))] [(.int (4 : Int32)), (.int (1 : Int32))]))
    obtain ⟨_, _, ⟨T379, L379, k379, n379⟩, -, X379, ⟨Lc379, hQ379, l379, y379, z379⟩, st379⟩ := Jvm.LawKit.callS X377 hx (y := (⟨"com/example/pelt/pelt/AxisListsOverlapPinLaw", "expected", "(I)Z"⟩ : MethodName)) hown (mvT hZ (hw _ (List.mem_of_getElem? (i := 29) rfl))) (mvT hZ (hw _ (List.mem_of_getElem? (i := 30) rfl))) (mvT hZ (hw _ (List.mem_of_getElem? (i := 3) rfl))) (mvT hZ (hw _ (List.mem_of_getElem? (i := 31) rfl))) (by decide) (backOf (W := 1) (rm_ex4 l Z a0 hw []  h0 n0  Z0 ) hZ (hw _ (List.mem_of_getElem? (i := 31) rfl)) (hw _ (List.mem_of_getElem? (i := 3) rfl)) (by decide) (by decide)) (g := (mkF m 38 #[.val (.int p0), .val (.int (4 : Int32)), .val (.ref (A 4)), .val (.int (1 : Int32)), .val (.int (1 : Int32))] [(.int (4 : Int32)), (.int (1 : Int32))])) rfl (by rw [hml]; rfl) (argsL := [(.int (4 : Int32))]) (rest := [(.int (1 : Int32))]) (lenOf pd_4 rfl) rfl (by show 2 * 0 + _ ≤ _; exact Nat.le_of_eq rfl) (hb hby at_38) (fun _ _ => ⟨rfl, e377, Nat.le_of_ble_eq_true rfl, Nat.le_of_ble_eq_true rfl⟩)
    dsimp only [Pt.U, Pt.locs, Pt.cells, Pt.slots] at X379 l379 y379 z379 st379 hQ379
    rw [l379, y379, z379] at X379
    obtain ⟨rfl, rfl, e379⟩ := hQ379
    have X379 : Stand p l e _ s m #[(.int p0)] below meth c T379 [] 0 0 := X379
    refine OGets.step st379 ?_
    show OGets p e below _ (T379.setTop (mkF m 41 #[.val (.int p0), .val (.int (4 : Int32)), .val (.ref (A 4)), .val (.int (1 : Int32)), .val (.int (1 : Int32))] [(.int (1 : Int32)), (.int (1 : Int32))]))
    refine OGets.step (fun _ => XS.icmpNo X379.here hx rfl (hb hby at_41) rfl (teq (by decide : (1 : Int32) = (1 : Int32))).2) ?_
    show OGets p e below _ (T379.setTop (mkF m 44 #[.val (.int p0), .val (.int (4 : Int32)), .val (.ref (A 4)), .val (.int (1 : Int32)), .val (.int (1 : Int32))] []))
    refine OGets.step (fun _ => XS.iload X379.here hx rfl (hb hby at_44) rfl) ?_
    show OGets p e below _ (T379.setTop (mkF m 46 #[.val (.int p0), .val (.int (4 : Int32)), .val (.ref (A 4)), .val (.int (1 : Int32)), .val (.int (1 : Int32))] [(.int (1 : Int32))]))
    refine OGets.step (fun _ => XS.ifNo X379.here hx rfl (hb hby at_46) rfl ((if0 _ _).trans (feq (by decide : ¬ ((1 : Int32) = (0 : Int32)))).1)) ?_
    show OGets p e below _ (T379.setTop (mkF m 49 #[.val (.int p0), .val (.int (4 : Int32)), .val (.ref (A 4)), .val (.int (1 : Int32)), .val (.int (1 : Int32))] []))
    refine OGets.step (fun _ => XS.iconst X379.here hx rfl (hb hby at_49)) ?_
    show OGets p e below _ (T379.setTop (mkF m 50 #[.val (.int p0), .val (.int (4 : Int32)), .val (.ref (A 4)), .val (.int (1 : Int32)), .val (.int (1 : Int32))] [(.int (1 : Int32))]))
    refine OGets.step (fun _ => XS.goto X379.here hx rfl (pc0 := 50) (pc' := 54) rfl (hb hby at_50) (by decide) (by decide)) ?_
    show OGets p e below _ (T379.setTop (mkF m 54 #[.val (.int p0), .val (.int (4 : Int32)), .val (.ref (A 4)), .val (.int (1 : Int32)), .val (.int (1 : Int32))] [(.int (1 : Int32))]))
    refine OGets.retN X379 hx hlk (t := .boolean) Bd.returns (by simp) (hb hby at_54) (Nat.le_of_ble_eq_true rfl) (Nat.le_of_ble_eq_true rfl) ?_
    exact ⟨rfl, N0⟩
  · show OGets p e below _ (s₁.setTop (mkF m 7 #[.val (.int p0), .unset, .unset, .unset, .unset] [(.int (5 : Int32))]))
    refine OGets.step (fun _ => XS.istoreN X0.here hx rfl (hb hby at_7) rfl (l' := #[.val (.int p0), .val (.int (5 : Int32)), .unset, .unset, .unset]) rfl) ?_
    show OGets p e below _ (s₁.setTop (mkF m 8 #[.val (.int p0), .val (.int (5 : Int32)), .unset, .unset, .unset] []))
    refine OGets.step (fun _ => XS.iloadN X0.here hx rfl (hb hby at_8) rfl) ?_
    show OGets p e below _ (s₁.setTop (mkF m 9 #[.val (.int p0), .val (.int (5 : Int32)), .unset, .unset, .unset] [(.int (5 : Int32))]))
    obtain ⟨_, _, ⟨T382, L382, k382, n382⟩, -, X382, ⟨Lc382, hQ382, l382, y382, z382⟩, st382⟩ := Jvm.LawKit.callS X0 hx (y := (⟨"com/example/pelt/pelt/AxisListsOverlapPinLaw", "pick", "(I)Lcom/example/pelt/pelt/Axis;"⟩ : MethodName)) hown (mvT hZ (hw _ (List.mem_of_getElem? (i := 1) rfl))) (mvT hZ (hw _ (List.mem_of_getElem? (i := 2) rfl))) (mvT hZ (hw _ (List.mem_of_getElem? (i := 3) rfl))) (mvT hZ (hw _ (List.mem_of_getElem? (i := 4) rfl))) (by decide) (backOf (W := 0) (rm_pk5 l Z a0 hw [] A h0 n0  Z0 hS hI) hZ (hw _ (List.mem_of_getElem? (i := 4) rfl)) (hw _ (List.mem_of_getElem? (i := 3) rfl)) (by decide) (by decide)) (g := (mkF m 9 #[.val (.int p0), .val (.int (5 : Int32)), .unset, .unset, .unset] [(.int (5 : Int32))])) rfl (by rw [hml]; rfl) (argsL := [(.int (5 : Int32))]) (rest := []) (lenOf pd_2 rfl) rfl (by show 2 * 0 + _ ≤ _; exact Nat.le_of_eq rfl) (hb hby at_9) (fun _ _ => ⟨rfl, e0, Nat.le_of_ble_eq_true rfl, Nat.le_of_ble_eq_true rfl⟩)
    dsimp only [Pt.U, Pt.locs, Pt.cells, Pt.slots] at X382 l382 y382 z382 st382 hQ382
    rw [l382, y382, z382] at X382
    obtain ⟨rfl, rfl, e382⟩ := hQ382
    have X382 : Stand p l e _ s m #[(.int p0)] below meth c T382 [] 0 0 := X382
    refine OGets.step st382 ?_
    show OGets p e below _ (T382.setTop (mkF m 12 #[.val (.int p0), .val (.int (5 : Int32)), .unset, .unset, .unset] [(.ref (A 5))]))
    refine OGets.step (fun _ => XS.astoreN X382.here hx rfl (hb hby at_12) rfl rfl (l' := #[.val (.int p0), .val (.int (5 : Int32)), .val (.ref (A 5)), .unset, .unset]) rfl) ?_
    show OGets p e below _ (T382.setTop (mkF m 13 #[.val (.int p0), .val (.int (5 : Int32)), .val (.ref (A 5)), .unset, .unset] []))
    refine OGets.step (fun _ => XS.aloadN X382.here hx rfl (hb hby at_13) rfl rfl) ?_
    show OGets p e below _ (T382.setTop (mkF m 14 #[.val (.int p0), .val (.int (5 : Int32)), .val (.ref (A 5)), .unset, .unset] [(.ref (A 5))]))
    obtain ⟨cq383, kq383, q383a, q383b, q383c⟩ := isOf hZ e382 (show Exa Z h0 (A 5) "com/example/pelt/pelt/Axis$6" from hE 5 (by decide))
    obtain ⟨_, _, ⟨T383, L383, k383, n383⟩, -, X383, ⟨Lc383, hQ383, l383, y383, z383⟩, st383⟩ := X382.virtualBack hx (y := (⟨"com/example/pelt/pelt/Axis", "listsOverlap", "()Z"⟩ : MethodName)) (z := (⟨"com/example/pelt/pelt/Axis", "listsOverlap", "()Z"⟩ : MethodName)) hown (mvT hZ (hw _ (List.mem_of_getElem? (i := 8) rfl))) (mvT hZ (hw _ (List.mem_of_getElem? (i := 9) rfl))) (notFace_of_selects (args := #[]) (mvT hZ (hw _ (List.mem_of_getElem? (i := 47) rfl)))) (mvT hZ (hw _ (List.mem_of_getElem? (i := 47) rfl))) (mvT hZ (hw _ (List.mem_of_getElem? (i := 10) rfl))) (by decide) (backOf (W := 0) (rm_lo5 l Z a0 hw [] A h0 n0  Z0 hS hI) hZ (hw _ (List.mem_of_getElem? (i := 12) rfl)) (hw _ (List.mem_of_getElem? (i := 6) rfl)) (by decide) (by decide)) q383a q383c (g := (mkF m 14 #[.val (.int p0), .val (.int (5 : Int32)), .val (.ref (A 5)), .unset, .unset] [(.ref (A 5))])) rfl (by rw [hml]; rfl) (Steps.refl _) (argsL := []) (rest := []) (lenOf pd_3 rfl) rfl (by show 2 * 0 + _ ≤ _; exact Nat.le_of_eq rfl) (hb hby at_14) (fun _ _ => ⟨rfl, e382, Nat.le_of_ble_eq_true rfl, Nat.le_of_ble_eq_true rfl⟩)
    dsimp only [Pt.U, Pt.locs, Pt.cells, Pt.slots] at X383 l383 y383 z383 st383 hQ383
    rw [l383, y383, z383] at X383
    obtain ⟨rfl, rfl, e383⟩ := hQ383
    have X383 : Stand p l e _ s m #[(.int p0)] below meth c T383 [] 0 0 := X383
    refine OGets.after st383 ?_
    show OGets p e below _ (T383.setTop (mkF m 17 #[.val (.int p0), .val (.int (5 : Int32)), .val (.ref (A 5)), .unset, .unset] [(.int (1 : Int32))]))
    refine OGets.step (fun _ => XS.istoreN X383.here hx rfl (hb hby at_17) rfl (l' := #[.val (.int p0), .val (.int (5 : Int32)), .val (.ref (A 5)), .val (.int (1 : Int32)), .unset]) rfl) ?_
    show OGets p e below _ (T383.setTop (mkF m 18 #[.val (.int p0), .val (.int (5 : Int32)), .val (.ref (A 5)), .val (.int (1 : Int32)), .unset] []))
    refine OGets.step (fun _ => XS.aloadN X383.here hx rfl (hb hby at_18) rfl rfl) ?_
    show OGets p e below _ (T383.setTop (mkF m 19 #[.val (.int p0), .val (.int (5 : Int32)), .val (.ref (A 5)), .val (.int (1 : Int32)), .unset] [(.ref (A 5))]))
    obtain ⟨cq384, kq384, q384a, q384b, q384c⟩ := isOf hZ e383 (show Exa Z h0 (A 5) "com/example/pelt/pelt/Axis$6" from hE 5 (by decide))
    obtain ⟨_, _, ⟨T384, L384, k384, n384⟩, -, X384, ⟨Lc384, hQ384, l384, y384, z384⟩, st384⟩ := X383.virtualBack hx (y := (⟨"com/example/pelt/pelt/Axis", "isReverse", "()Z"⟩ : MethodName)) (z := (⟨"com/example/pelt/pelt/Axis", "isReverse", "()Z"⟩ : MethodName)) hown (mvT hZ (hw _ (List.mem_of_getElem? (i := 23) rfl))) (mvT hZ (hw _ (List.mem_of_getElem? (i := 24) rfl))) (notFace_of_selects (args := #[]) (mvT hZ (hw _ (List.mem_of_getElem? (i := 48) rfl)))) (mvT hZ (hw _ (List.mem_of_getElem? (i := 48) rfl))) (mvT hZ (hw _ (List.mem_of_getElem? (i := 25) rfl))) (by decide) (backOf (W := 0) (rm_rv5 l Z a0 hw [] A h0 n0  Z0 hS hI) hZ (hw _ (List.mem_of_getElem? (i := 27) rfl)) (hw _ (List.mem_of_getElem? (i := 6) rfl)) (by decide) (by decide)) q384a q384c (g := (mkF m 19 #[.val (.int p0), .val (.int (5 : Int32)), .val (.ref (A 5)), .val (.int (1 : Int32)), .unset] [(.ref (A 5))])) rfl (by rw [hml]; rfl) (Steps.refl _) (argsL := []) (rest := []) (lenOf pd_3 rfl) rfl (by show 2 * 0 + _ ≤ _; exact Nat.le_of_eq rfl) (hb hby at_19) (fun _ _ => ⟨rfl, e383, Nat.le_of_ble_eq_true rfl, Nat.le_of_ble_eq_true rfl⟩)
    dsimp only [Pt.U, Pt.locs, Pt.cells, Pt.slots] at X384 l384 y384 z384 st384 hQ384
    rw [l384, y384, z384] at X384
    obtain ⟨rfl, rfl, e384⟩ := hQ384
    have X384 : Stand p l e _ s m #[(.int p0)] below meth c T384 [] 0 0 := X384
    refine OGets.after st384 ?_
    show OGets p e below _ (T384.setTop (mkF m 22 #[.val (.int p0), .val (.int (5 : Int32)), .val (.ref (A 5)), .val (.int (1 : Int32)), .unset] [(.int (0 : Int32))]))
    refine OGets.step (fun _ => XS.ifYes X384.here hx rfl (pc0 := 22) (pc' := 29) rfl (hb hby at_22) rfl ((if0 _ _).trans (teq (by decide : (0 : Int32) = (0 : Int32))).1) (by decide) (by decide)) ?_
    show OGets p e below _ (T384.setTop (mkF m 29 #[.val (.int p0), .val (.int (5 : Int32)), .val (.ref (A 5)), .val (.int (1 : Int32)), .unset] []))
    refine OGets.step (fun _ => XS.iconst X384.here hx rfl (hb hby at_29)) ?_
    show OGets p e below _ (T384.setTop (mkF m 30 #[.val (.int p0), .val (.int (5 : Int32)), .val (.ref (A 5)), .val (.int (1 : Int32)), .unset] [(.int (1 : Int32))]))
    refine OGets.step (fun _ => XS.goto X384.here hx rfl (pc0 := 30) (pc' := 34) rfl (hb hby at_30) (by decide) (by decide)) ?_
    show OGets p e below _ (T384.setTop (mkF m 34 #[.val (.int p0), .val (.int (5 : Int32)), .val (.ref (A 5)), .val (.int (1 : Int32)), .unset] [(.int (1 : Int32))]))
    refine OGets.step (fun _ => XS.istore X384.here hx rfl (hb hby at_34) rfl (l' := #[.val (.int p0), .val (.int (5 : Int32)), .val (.ref (A 5)), .val (.int (1 : Int32)), .val (.int (1 : Int32))]) rfl) ?_
    show OGets p e below _ (T384.setTop (mkF m 36 #[.val (.int p0), .val (.int (5 : Int32)), .val (.ref (A 5)), .val (.int (1 : Int32)), .val (.int (1 : Int32))] []))
    refine OGets.step (fun _ => XS.iloadN X384.here hx rfl (hb hby at_36) rfl) ?_
    show OGets p e below _ (T384.setTop (mkF m 37 #[.val (.int p0), .val (.int (5 : Int32)), .val (.ref (A 5)), .val (.int (1 : Int32)), .val (.int (1 : Int32))] [(.int (1 : Int32))]))
    refine OGets.step (fun _ => XS.iloadN X384.here hx rfl (hb hby at_37) rfl) ?_
    show OGets p e below _ (T384.setTop (mkF m 38 #[.val (.int p0), .val (.int (5 : Int32)), .val (.ref (A 5)), .val (.int (1 : Int32)), .val (.int (1 : Int32))] [(.int (5 : Int32)), (.int (1 : Int32))]))
    obtain ⟨_, _, ⟨T386, L386, k386, n386⟩, -, X386, ⟨Lc386, hQ386, l386, y386, z386⟩, st386⟩ := Jvm.LawKit.callS X384 hx (y := (⟨"com/example/pelt/pelt/AxisListsOverlapPinLaw", "expected", "(I)Z"⟩ : MethodName)) hown (mvT hZ (hw _ (List.mem_of_getElem? (i := 29) rfl))) (mvT hZ (hw _ (List.mem_of_getElem? (i := 30) rfl))) (mvT hZ (hw _ (List.mem_of_getElem? (i := 3) rfl))) (mvT hZ (hw _ (List.mem_of_getElem? (i := 31) rfl))) (by decide) (backOf (W := 1) (rm_ex5 l Z a0 hw []  h0 n0  Z0 ) hZ (hw _ (List.mem_of_getElem? (i := 31) rfl)) (hw _ (List.mem_of_getElem? (i := 3) rfl)) (by decide) (by decide)) (g := (mkF m 38 #[.val (.int p0), .val (.int (5 : Int32)), .val (.ref (A 5)), .val (.int (1 : Int32)), .val (.int (1 : Int32))] [(.int (5 : Int32)), (.int (1 : Int32))])) rfl (by rw [hml]; rfl) (argsL := [(.int (5 : Int32))]) (rest := [(.int (1 : Int32))]) (lenOf pd_4 rfl) rfl (by show 2 * 0 + _ ≤ _; exact Nat.le_of_eq rfl) (hb hby at_38) (fun _ _ => ⟨rfl, e384, Nat.le_of_ble_eq_true rfl, Nat.le_of_ble_eq_true rfl⟩)
    dsimp only [Pt.U, Pt.locs, Pt.cells, Pt.slots] at X386 l386 y386 z386 st386 hQ386
    rw [l386, y386, z386] at X386
    obtain ⟨rfl, rfl, e386⟩ := hQ386
    have X386 : Stand p l e _ s m #[(.int p0)] below meth c T386 [] 0 0 := X386
    refine OGets.step st386 ?_
    show OGets p e below _ (T386.setTop (mkF m 41 #[.val (.int p0), .val (.int (5 : Int32)), .val (.ref (A 5)), .val (.int (1 : Int32)), .val (.int (1 : Int32))] [(.int (1 : Int32)), (.int (1 : Int32))]))
    refine OGets.step (fun _ => XS.icmpNo X386.here hx rfl (hb hby at_41) rfl (teq (by decide : (1 : Int32) = (1 : Int32))).2) ?_
    show OGets p e below _ (T386.setTop (mkF m 44 #[.val (.int p0), .val (.int (5 : Int32)), .val (.ref (A 5)), .val (.int (1 : Int32)), .val (.int (1 : Int32))] []))
    refine OGets.step (fun _ => XS.iload X386.here hx rfl (hb hby at_44) rfl) ?_
    show OGets p e below _ (T386.setTop (mkF m 46 #[.val (.int p0), .val (.int (5 : Int32)), .val (.ref (A 5)), .val (.int (1 : Int32)), .val (.int (1 : Int32))] [(.int (1 : Int32))]))
    refine OGets.step (fun _ => XS.ifNo X386.here hx rfl (hb hby at_46) rfl ((if0 _ _).trans (feq (by decide : ¬ ((1 : Int32) = (0 : Int32)))).1)) ?_
    show OGets p e below _ (T386.setTop (mkF m 49 #[.val (.int p0), .val (.int (5 : Int32)), .val (.ref (A 5)), .val (.int (1 : Int32)), .val (.int (1 : Int32))] []))
    refine OGets.step (fun _ => XS.iconst X386.here hx rfl (hb hby at_49)) ?_
    show OGets p e below _ (T386.setTop (mkF m 50 #[.val (.int p0), .val (.int (5 : Int32)), .val (.ref (A 5)), .val (.int (1 : Int32)), .val (.int (1 : Int32))] [(.int (1 : Int32))]))
    refine OGets.step (fun _ => XS.goto X386.here hx rfl (pc0 := 50) (pc' := 54) rfl (hb hby at_50) (by decide) (by decide)) ?_
    show OGets p e below _ (T386.setTop (mkF m 54 #[.val (.int p0), .val (.int (5 : Int32)), .val (.ref (A 5)), .val (.int (1 : Int32)), .val (.int (1 : Int32))] [(.int (1 : Int32))]))
    refine OGets.retN X386 hx hlk (t := .boolean) Bd.returns (by simp) (hb hby at_54) (Nat.le_of_ble_eq_true rfl) (Nat.le_of_ble_eq_true rfl) ?_
    exact ⟨rfl, N0⟩
  · show OGets p e below _ (s₁.setTop (mkF m 7 #[.val (.int p0), .unset, .unset, .unset, .unset] [(.int (6 : Int32))]))
    refine OGets.step (fun _ => XS.istoreN X0.here hx rfl (hb hby at_7) rfl (l' := #[.val (.int p0), .val (.int (6 : Int32)), .unset, .unset, .unset]) rfl) ?_
    show OGets p e below _ (s₁.setTop (mkF m 8 #[.val (.int p0), .val (.int (6 : Int32)), .unset, .unset, .unset] []))
    refine OGets.step (fun _ => XS.iloadN X0.here hx rfl (hb hby at_8) rfl) ?_
    show OGets p e below _ (s₁.setTop (mkF m 9 #[.val (.int p0), .val (.int (6 : Int32)), .unset, .unset, .unset] [(.int (6 : Int32))]))
    obtain ⟨_, _, ⟨T389, L389, k389, n389⟩, -, X389, ⟨Lc389, hQ389, l389, y389, z389⟩, st389⟩ := Jvm.LawKit.callS X0 hx (y := (⟨"com/example/pelt/pelt/AxisListsOverlapPinLaw", "pick", "(I)Lcom/example/pelt/pelt/Axis;"⟩ : MethodName)) hown (mvT hZ (hw _ (List.mem_of_getElem? (i := 1) rfl))) (mvT hZ (hw _ (List.mem_of_getElem? (i := 2) rfl))) (mvT hZ (hw _ (List.mem_of_getElem? (i := 3) rfl))) (mvT hZ (hw _ (List.mem_of_getElem? (i := 4) rfl))) (by decide) (backOf (W := 0) (rm_pk6 l Z a0 hw [] A h0 n0  Z0 hS hI) hZ (hw _ (List.mem_of_getElem? (i := 4) rfl)) (hw _ (List.mem_of_getElem? (i := 3) rfl)) (by decide) (by decide)) (g := (mkF m 9 #[.val (.int p0), .val (.int (6 : Int32)), .unset, .unset, .unset] [(.int (6 : Int32))])) rfl (by rw [hml]; rfl) (argsL := [(.int (6 : Int32))]) (rest := []) (lenOf pd_2 rfl) rfl (by show 2 * 0 + _ ≤ _; exact Nat.le_of_eq rfl) (hb hby at_9) (fun _ _ => ⟨rfl, e0, Nat.le_of_ble_eq_true rfl, Nat.le_of_ble_eq_true rfl⟩)
    dsimp only [Pt.U, Pt.locs, Pt.cells, Pt.slots] at X389 l389 y389 z389 st389 hQ389
    rw [l389, y389, z389] at X389
    obtain ⟨rfl, rfl, e389⟩ := hQ389
    have X389 : Stand p l e _ s m #[(.int p0)] below meth c T389 [] 0 0 := X389
    refine OGets.step st389 ?_
    show OGets p e below _ (T389.setTop (mkF m 12 #[.val (.int p0), .val (.int (6 : Int32)), .unset, .unset, .unset] [(.ref (A 6))]))
    refine OGets.step (fun _ => XS.astoreN X389.here hx rfl (hb hby at_12) rfl rfl (l' := #[.val (.int p0), .val (.int (6 : Int32)), .val (.ref (A 6)), .unset, .unset]) rfl) ?_
    show OGets p e below _ (T389.setTop (mkF m 13 #[.val (.int p0), .val (.int (6 : Int32)), .val (.ref (A 6)), .unset, .unset] []))
    refine OGets.step (fun _ => XS.aloadN X389.here hx rfl (hb hby at_13) rfl rfl) ?_
    show OGets p e below _ (T389.setTop (mkF m 14 #[.val (.int p0), .val (.int (6 : Int32)), .val (.ref (A 6)), .unset, .unset] [(.ref (A 6))]))
    obtain ⟨cq390, kq390, q390a, q390b, q390c⟩ := isOf hZ e389 (show Exa Z h0 (A 6) "com/example/pelt/pelt/Axis$7" from hE 6 (by decide))
    obtain ⟨_, _, ⟨T390, L390, k390, n390⟩, -, X390, ⟨Lc390, hQ390, l390, y390, z390⟩, st390⟩ := X389.virtualBack hx (y := (⟨"com/example/pelt/pelt/Axis", "listsOverlap", "()Z"⟩ : MethodName)) (z := (⟨"com/example/pelt/pelt/Axis", "listsOverlap", "()Z"⟩ : MethodName)) hown (mvT hZ (hw _ (List.mem_of_getElem? (i := 8) rfl))) (mvT hZ (hw _ (List.mem_of_getElem? (i := 9) rfl))) (notFace_of_selects (args := #[]) (mvT hZ (hw _ (List.mem_of_getElem? (i := 43) rfl)))) (mvT hZ (hw _ (List.mem_of_getElem? (i := 43) rfl))) (mvT hZ (hw _ (List.mem_of_getElem? (i := 10) rfl))) (by decide) (backOf (W := 0) (rm_lo6 l Z a0 hw [] A h0 n0  Z0 hS hI) hZ (hw _ (List.mem_of_getElem? (i := 12) rfl)) (hw _ (List.mem_of_getElem? (i := 6) rfl)) (by decide) (by decide)) q390a q390c (g := (mkF m 14 #[.val (.int p0), .val (.int (6 : Int32)), .val (.ref (A 6)), .unset, .unset] [(.ref (A 6))])) rfl (by rw [hml]; rfl) (Steps.refl _) (argsL := []) (rest := []) (lenOf pd_3 rfl) rfl (by show 2 * 0 + _ ≤ _; exact Nat.le_of_eq rfl) (hb hby at_14) (fun _ _ => ⟨rfl, e389, Nat.le_of_ble_eq_true rfl, Nat.le_of_ble_eq_true rfl⟩)
    dsimp only [Pt.U, Pt.locs, Pt.cells, Pt.slots] at X390 l390 y390 z390 st390 hQ390
    rw [l390, y390, z390] at X390
    obtain ⟨rfl, rfl, e390⟩ := hQ390
    have X390 : Stand p l e _ s m #[(.int p0)] below meth c T390 [] 0 0 := X390
    refine OGets.after st390 ?_
    show OGets p e below _ (T390.setTop (mkF m 17 #[.val (.int p0), .val (.int (6 : Int32)), .val (.ref (A 6)), .unset, .unset] [(.int (1 : Int32))]))
    refine OGets.step (fun _ => XS.istoreN X390.here hx rfl (hb hby at_17) rfl (l' := #[.val (.int p0), .val (.int (6 : Int32)), .val (.ref (A 6)), .val (.int (1 : Int32)), .unset]) rfl) ?_
    show OGets p e below _ (T390.setTop (mkF m 18 #[.val (.int p0), .val (.int (6 : Int32)), .val (.ref (A 6)), .val (.int (1 : Int32)), .unset] []))
    refine OGets.step (fun _ => XS.aloadN X390.here hx rfl (hb hby at_18) rfl rfl) ?_
    show OGets p e below _ (T390.setTop (mkF m 19 #[.val (.int p0), .val (.int (6 : Int32)), .val (.ref (A 6)), .val (.int (1 : Int32)), .unset] [(.ref (A 6))]))
    obtain ⟨cq391, kq391, q391a, q391b, q391c⟩ := isOf hZ e390 (show Exa Z h0 (A 6) "com/example/pelt/pelt/Axis$7" from hE 6 (by decide))
    obtain ⟨_, _, ⟨T391, L391, k391, n391⟩, -, X391, ⟨Lc391, hQ391, l391, y391, z391⟩, st391⟩ := X390.virtualBack hx (y := (⟨"com/example/pelt/pelt/Axis", "isReverse", "()Z"⟩ : MethodName)) (z := (⟨"com/example/pelt/pelt/Axis", "isReverse", "()Z"⟩ : MethodName)) hown (mvT hZ (hw _ (List.mem_of_getElem? (i := 23) rfl))) (mvT hZ (hw _ (List.mem_of_getElem? (i := 24) rfl))) (notFace_of_selects (args := #[]) (mvT hZ (hw _ (List.mem_of_getElem? (i := 44) rfl)))) (mvT hZ (hw _ (List.mem_of_getElem? (i := 44) rfl))) (mvT hZ (hw _ (List.mem_of_getElem? (i := 25) rfl))) (by decide) (backOf (W := 0) (rm_rv6 l Z a0 hw [] A h0 n0  Z0 hS hI) hZ (hw _ (List.mem_of_getElem? (i := 27) rfl)) (hw _ (List.mem_of_getElem? (i := 6) rfl)) (by decide) (by decide)) q391a q391c (g := (mkF m 19 #[.val (.int p0), .val (.int (6 : Int32)), .val (.ref (A 6)), .val (.int (1 : Int32)), .unset] [(.ref (A 6))])) rfl (by rw [hml]; rfl) (Steps.refl _) (argsL := []) (rest := []) (lenOf pd_3 rfl) rfl (by show 2 * 0 + _ ≤ _; exact Nat.le_of_eq rfl) (hb hby at_19) (fun _ _ => ⟨rfl, e390, Nat.le_of_ble_eq_true rfl, Nat.le_of_ble_eq_true rfl⟩)
    dsimp only [Pt.U, Pt.locs, Pt.cells, Pt.slots] at X391 l391 y391 z391 st391 hQ391
    rw [l391, y391, z391] at X391
    obtain ⟨rfl, rfl, e391⟩ := hQ391
    have X391 : Stand p l e _ s m #[(.int p0)] below meth c T391 [] 0 0 := X391
    refine OGets.after st391 ?_
    show OGets p e below _ (T391.setTop (mkF m 22 #[.val (.int p0), .val (.int (6 : Int32)), .val (.ref (A 6)), .val (.int (1 : Int32)), .unset] [(.int (0 : Int32))]))
    refine OGets.step (fun _ => XS.ifYes X391.here hx rfl (pc0 := 22) (pc' := 29) rfl (hb hby at_22) rfl ((if0 _ _).trans (teq (by decide : (0 : Int32) = (0 : Int32))).1) (by decide) (by decide)) ?_
    show OGets p e below _ (T391.setTop (mkF m 29 #[.val (.int p0), .val (.int (6 : Int32)), .val (.ref (A 6)), .val (.int (1 : Int32)), .unset] []))
    refine OGets.step (fun _ => XS.iconst X391.here hx rfl (hb hby at_29)) ?_
    show OGets p e below _ (T391.setTop (mkF m 30 #[.val (.int p0), .val (.int (6 : Int32)), .val (.ref (A 6)), .val (.int (1 : Int32)), .unset] [(.int (1 : Int32))]))
    refine OGets.step (fun _ => XS.goto X391.here hx rfl (pc0 := 30) (pc' := 34) rfl (hb hby at_30) (by decide) (by decide)) ?_
    show OGets p e below _ (T391.setTop (mkF m 34 #[.val (.int p0), .val (.int (6 : Int32)), .val (.ref (A 6)), .val (.int (1 : Int32)), .unset] [(.int (1 : Int32))]))
    refine OGets.step (fun _ => XS.istore X391.here hx rfl (hb hby at_34) rfl (l' := #[.val (.int p0), .val (.int (6 : Int32)), .val (.ref (A 6)), .val (.int (1 : Int32)), .val (.int (1 : Int32))]) rfl) ?_
    show OGets p e below _ (T391.setTop (mkF m 36 #[.val (.int p0), .val (.int (6 : Int32)), .val (.ref (A 6)), .val (.int (1 : Int32)), .val (.int (1 : Int32))] []))
    refine OGets.step (fun _ => XS.iloadN X391.here hx rfl (hb hby at_36) rfl) ?_
    show OGets p e below _ (T391.setTop (mkF m 37 #[.val (.int p0), .val (.int (6 : Int32)), .val (.ref (A 6)), .val (.int (1 : Int32)), .val (.int (1 : Int32))] [(.int (1 : Int32))]))
    refine OGets.step (fun _ => XS.iloadN X391.here hx rfl (hb hby at_37) rfl) ?_
    show OGets p e below _ (T391.setTop (mkF m 38 #[.val (.int p0), .val (.int (6 : Int32)), .val (.ref (A 6)), .val (.int (1 : Int32)), .val (.int (1 : Int32))] [(.int (6 : Int32)), (.int (1 : Int32))]))
    obtain ⟨_, _, ⟨T393, L393, k393, n393⟩, -, X393, ⟨Lc393, hQ393, l393, y393, z393⟩, st393⟩ := Jvm.LawKit.callS X391 hx (y := (⟨"com/example/pelt/pelt/AxisListsOverlapPinLaw", "expected", "(I)Z"⟩ : MethodName)) hown (mvT hZ (hw _ (List.mem_of_getElem? (i := 29) rfl))) (mvT hZ (hw _ (List.mem_of_getElem? (i := 30) rfl))) (mvT hZ (hw _ (List.mem_of_getElem? (i := 3) rfl))) (mvT hZ (hw _ (List.mem_of_getElem? (i := 31) rfl))) (by decide) (backOf (W := 1) (rm_ex6 l Z a0 hw []  h0 n0  Z0 ) hZ (hw _ (List.mem_of_getElem? (i := 31) rfl)) (hw _ (List.mem_of_getElem? (i := 3) rfl)) (by decide) (by decide)) (g := (mkF m 38 #[.val (.int p0), .val (.int (6 : Int32)), .val (.ref (A 6)), .val (.int (1 : Int32)), .val (.int (1 : Int32))] [(.int (6 : Int32)), (.int (1 : Int32))])) rfl (by rw [hml]; rfl) (argsL := [(.int (6 : Int32))]) (rest := [(.int (1 : Int32))]) (lenOf pd_4 rfl) rfl (by show 2 * 0 + _ ≤ _; exact Nat.le_of_eq rfl) (hb hby at_38) (fun _ _ => ⟨rfl, e391, Nat.le_of_ble_eq_true rfl, Nat.le_of_ble_eq_true rfl⟩)
    dsimp only [Pt.U, Pt.locs, Pt.cells, Pt.slots] at X393 l393 y393 z393 st393 hQ393
    rw [l393, y393, z393] at X393
    obtain ⟨rfl, rfl, e393⟩ := hQ393
    have X393 : Stand p l e _ s m #[(.int p0)] below meth c T393 [] 0 0 := X393
    refine OGets.step st393 ?_
    show OGets p e below _ (T393.setTop (mkF m 41 #[.val (.int p0), .val (.int (6 : Int32)), .val (.ref (A 6)), .val (.int (1 : Int32)), .val (.int (1 : Int32))] [(.int (1 : Int32)), (.int (1 : Int32))]))
    refine OGets.step (fun _ => XS.icmpNo X393.here hx rfl (hb hby at_41) rfl (teq (by decide : (1 : Int32) = (1 : Int32))).2) ?_
    show OGets p e below _ (T393.setTop (mkF m 44 #[.val (.int p0), .val (.int (6 : Int32)), .val (.ref (A 6)), .val (.int (1 : Int32)), .val (.int (1 : Int32))] []))
    refine OGets.step (fun _ => XS.iload X393.here hx rfl (hb hby at_44) rfl) ?_
    show OGets p e below _ (T393.setTop (mkF m 46 #[.val (.int p0), .val (.int (6 : Int32)), .val (.ref (A 6)), .val (.int (1 : Int32)), .val (.int (1 : Int32))] [(.int (1 : Int32))]))
    refine OGets.step (fun _ => XS.ifNo X393.here hx rfl (hb hby at_46) rfl ((if0 _ _).trans (feq (by decide : ¬ ((1 : Int32) = (0 : Int32)))).1)) ?_
    show OGets p e below _ (T393.setTop (mkF m 49 #[.val (.int p0), .val (.int (6 : Int32)), .val (.ref (A 6)), .val (.int (1 : Int32)), .val (.int (1 : Int32))] []))
    refine OGets.step (fun _ => XS.iconst X393.here hx rfl (hb hby at_49)) ?_
    show OGets p e below _ (T393.setTop (mkF m 50 #[.val (.int p0), .val (.int (6 : Int32)), .val (.ref (A 6)), .val (.int (1 : Int32)), .val (.int (1 : Int32))] [(.int (1 : Int32))]))
    refine OGets.step (fun _ => XS.goto X393.here hx rfl (pc0 := 50) (pc' := 54) rfl (hb hby at_50) (by decide) (by decide)) ?_
    show OGets p e below _ (T393.setTop (mkF m 54 #[.val (.int p0), .val (.int (6 : Int32)), .val (.ref (A 6)), .val (.int (1 : Int32)), .val (.int (1 : Int32))] [(.int (1 : Int32))]))
    refine OGets.retN X393 hx hlk (t := .boolean) Bd.returns (by simp) (hb hby at_54) (Nat.le_of_ble_eq_true rfl) (Nat.le_of_ble_eq_true rfl) ?_
    exact ⟨rfl, N0⟩
  · show OGets p e below _ (s₁.setTop (mkF m 7 #[.val (.int p0), .unset, .unset, .unset, .unset] [(.int (7 : Int32))]))
    refine OGets.step (fun _ => XS.istoreN X0.here hx rfl (hb hby at_7) rfl (l' := #[.val (.int p0), .val (.int (7 : Int32)), .unset, .unset, .unset]) rfl) ?_
    show OGets p e below _ (s₁.setTop (mkF m 8 #[.val (.int p0), .val (.int (7 : Int32)), .unset, .unset, .unset] []))
    refine OGets.step (fun _ => XS.iloadN X0.here hx rfl (hb hby at_8) rfl) ?_
    show OGets p e below _ (s₁.setTop (mkF m 9 #[.val (.int p0), .val (.int (7 : Int32)), .unset, .unset, .unset] [(.int (7 : Int32))]))
    obtain ⟨_, _, ⟨T396, L396, k396, n396⟩, -, X396, ⟨Lc396, hQ396, l396, y396, z396⟩, st396⟩ := Jvm.LawKit.callS X0 hx (y := (⟨"com/example/pelt/pelt/AxisListsOverlapPinLaw", "pick", "(I)Lcom/example/pelt/pelt/Axis;"⟩ : MethodName)) hown (mvT hZ (hw _ (List.mem_of_getElem? (i := 1) rfl))) (mvT hZ (hw _ (List.mem_of_getElem? (i := 2) rfl))) (mvT hZ (hw _ (List.mem_of_getElem? (i := 3) rfl))) (mvT hZ (hw _ (List.mem_of_getElem? (i := 4) rfl))) (by decide) (backOf (W := 0) (rm_pk7 l Z a0 hw [] A h0 n0  Z0 hS hI) hZ (hw _ (List.mem_of_getElem? (i := 4) rfl)) (hw _ (List.mem_of_getElem? (i := 3) rfl)) (by decide) (by decide)) (g := (mkF m 9 #[.val (.int p0), .val (.int (7 : Int32)), .unset, .unset, .unset] [(.int (7 : Int32))])) rfl (by rw [hml]; rfl) (argsL := [(.int (7 : Int32))]) (rest := []) (lenOf pd_2 rfl) rfl (by show 2 * 0 + _ ≤ _; exact Nat.le_of_eq rfl) (hb hby at_9) (fun _ _ => ⟨rfl, e0, Nat.le_of_ble_eq_true rfl, Nat.le_of_ble_eq_true rfl⟩)
    dsimp only [Pt.U, Pt.locs, Pt.cells, Pt.slots] at X396 l396 y396 z396 st396 hQ396
    rw [l396, y396, z396] at X396
    obtain ⟨rfl, rfl, e396⟩ := hQ396
    have X396 : Stand p l e _ s m #[(.int p0)] below meth c T396 [] 0 0 := X396
    refine OGets.step st396 ?_
    show OGets p e below _ (T396.setTop (mkF m 12 #[.val (.int p0), .val (.int (7 : Int32)), .unset, .unset, .unset] [(.ref (A 7))]))
    refine OGets.step (fun _ => XS.astoreN X396.here hx rfl (hb hby at_12) rfl rfl (l' := #[.val (.int p0), .val (.int (7 : Int32)), .val (.ref (A 7)), .unset, .unset]) rfl) ?_
    show OGets p e below _ (T396.setTop (mkF m 13 #[.val (.int p0), .val (.int (7 : Int32)), .val (.ref (A 7)), .unset, .unset] []))
    refine OGets.step (fun _ => XS.aloadN X396.here hx rfl (hb hby at_13) rfl rfl) ?_
    show OGets p e below _ (T396.setTop (mkF m 14 #[.val (.int p0), .val (.int (7 : Int32)), .val (.ref (A 7)), .unset, .unset] [(.ref (A 7))]))
    obtain ⟨cq397, kq397, q397a, q397b, q397c⟩ := isOf hZ e396 (show Exa Z h0 (A 7) "com/example/pelt/pelt/Axis$8" from hE 7 (by decide))
    obtain ⟨_, _, ⟨T397, L397, k397, n397⟩, -, X397, ⟨Lc397, hQ397, l397, y397, z397⟩, st397⟩ := X396.virtualBack hx (y := (⟨"com/example/pelt/pelt/Axis", "listsOverlap", "()Z"⟩ : MethodName)) (z := (⟨"com/example/pelt/pelt/Axis", "listsOverlap", "()Z"⟩ : MethodName)) hown (mvT hZ (hw _ (List.mem_of_getElem? (i := 8) rfl))) (mvT hZ (hw _ (List.mem_of_getElem? (i := 9) rfl))) (notFace_of_selects (args := #[]) (mvT hZ (hw _ (List.mem_of_getElem? (i := 51) rfl)))) (mvT hZ (hw _ (List.mem_of_getElem? (i := 51) rfl))) (mvT hZ (hw _ (List.mem_of_getElem? (i := 10) rfl))) (by decide) (backOf (W := 0) (rm_lo7 l Z a0 hw [] A h0 n0  Z0 hS hI) hZ (hw _ (List.mem_of_getElem? (i := 12) rfl)) (hw _ (List.mem_of_getElem? (i := 6) rfl)) (by decide) (by decide)) q397a q397c (g := (mkF m 14 #[.val (.int p0), .val (.int (7 : Int32)), .val (.ref (A 7)), .unset, .unset] [(.ref (A 7))])) rfl (by rw [hml]; rfl) (Steps.refl _) (argsL := []) (rest := []) (lenOf pd_3 rfl) rfl (by show 2 * 0 + _ ≤ _; exact Nat.le_of_eq rfl) (hb hby at_14) (fun _ _ => ⟨rfl, e396, Nat.le_of_ble_eq_true rfl, Nat.le_of_ble_eq_true rfl⟩)
    dsimp only [Pt.U, Pt.locs, Pt.cells, Pt.slots] at X397 l397 y397 z397 st397 hQ397
    rw [l397, y397, z397] at X397
    obtain ⟨rfl, rfl, e397⟩ := hQ397
    have X397 : Stand p l e _ s m #[(.int p0)] below meth c T397 [] 0 0 := X397
    refine OGets.after st397 ?_
    show OGets p e below _ (T397.setTop (mkF m 17 #[.val (.int p0), .val (.int (7 : Int32)), .val (.ref (A 7)), .unset, .unset] [(.int (1 : Int32))]))
    refine OGets.step (fun _ => XS.istoreN X397.here hx rfl (hb hby at_17) rfl (l' := #[.val (.int p0), .val (.int (7 : Int32)), .val (.ref (A 7)), .val (.int (1 : Int32)), .unset]) rfl) ?_
    show OGets p e below _ (T397.setTop (mkF m 18 #[.val (.int p0), .val (.int (7 : Int32)), .val (.ref (A 7)), .val (.int (1 : Int32)), .unset] []))
    refine OGets.step (fun _ => XS.aloadN X397.here hx rfl (hb hby at_18) rfl rfl) ?_
    show OGets p e below _ (T397.setTop (mkF m 19 #[.val (.int p0), .val (.int (7 : Int32)), .val (.ref (A 7)), .val (.int (1 : Int32)), .unset] [(.ref (A 7))]))
    obtain ⟨cq398, kq398, q398a, q398b, q398c⟩ := isOf hZ e397 (show Exa Z h0 (A 7) "com/example/pelt/pelt/Axis$8" from hE 7 (by decide))
    obtain ⟨_, _, ⟨T398, L398, k398, n398⟩, -, X398, ⟨Lc398, hQ398, l398, y398, z398⟩, st398⟩ := X397.virtualBack hx (y := (⟨"com/example/pelt/pelt/Axis", "isReverse", "()Z"⟩ : MethodName)) (z := (⟨"com/example/pelt/pelt/Axis", "isReverse", "()Z"⟩ : MethodName)) hown (mvT hZ (hw _ (List.mem_of_getElem? (i := 23) rfl))) (mvT hZ (hw _ (List.mem_of_getElem? (i := 24) rfl))) (notFace_of_selects (args := #[]) (mvT hZ (hw _ (List.mem_of_getElem? (i := 52) rfl)))) (mvT hZ (hw _ (List.mem_of_getElem? (i := 52) rfl))) (mvT hZ (hw _ (List.mem_of_getElem? (i := 25) rfl))) (by decide) (backOf (W := 0) (rm_rv7 l Z a0 hw [] A h0 n0  Z0 hS hI) hZ (hw _ (List.mem_of_getElem? (i := 27) rfl)) (hw _ (List.mem_of_getElem? (i := 6) rfl)) (by decide) (by decide)) q398a q398c (g := (mkF m 19 #[.val (.int p0), .val (.int (7 : Int32)), .val (.ref (A 7)), .val (.int (1 : Int32)), .unset] [(.ref (A 7))])) rfl (by rw [hml]; rfl) (Steps.refl _) (argsL := []) (rest := []) (lenOf pd_3 rfl) rfl (by show 2 * 0 + _ ≤ _; exact Nat.le_of_eq rfl) (hb hby at_19) (fun _ _ => ⟨rfl, e397, Nat.le_of_ble_eq_true rfl, Nat.le_of_ble_eq_true rfl⟩)
    dsimp only [Pt.U, Pt.locs, Pt.cells, Pt.slots] at X398 l398 y398 z398 st398 hQ398
    rw [l398, y398, z398] at X398
    obtain ⟨rfl, rfl, e398⟩ := hQ398
    have X398 : Stand p l e _ s m #[(.int p0)] below meth c T398 [] 0 0 := X398
    refine OGets.after st398 ?_
    show OGets p e below _ (T398.setTop (mkF m 22 #[.val (.int p0), .val (.int (7 : Int32)), .val (.ref (A 7)), .val (.int (1 : Int32)), .unset] [(.int (0 : Int32))]))
    refine OGets.step (fun _ => XS.ifYes X398.here hx rfl (pc0 := 22) (pc' := 29) rfl (hb hby at_22) rfl ((if0 _ _).trans (teq (by decide : (0 : Int32) = (0 : Int32))).1) (by decide) (by decide)) ?_
    show OGets p e below _ (T398.setTop (mkF m 29 #[.val (.int p0), .val (.int (7 : Int32)), .val (.ref (A 7)), .val (.int (1 : Int32)), .unset] []))
    refine OGets.step (fun _ => XS.iconst X398.here hx rfl (hb hby at_29)) ?_
    show OGets p e below _ (T398.setTop (mkF m 30 #[.val (.int p0), .val (.int (7 : Int32)), .val (.ref (A 7)), .val (.int (1 : Int32)), .unset] [(.int (1 : Int32))]))
    refine OGets.step (fun _ => XS.goto X398.here hx rfl (pc0 := 30) (pc' := 34) rfl (hb hby at_30) (by decide) (by decide)) ?_
    show OGets p e below _ (T398.setTop (mkF m 34 #[.val (.int p0), .val (.int (7 : Int32)), .val (.ref (A 7)), .val (.int (1 : Int32)), .unset] [(.int (1 : Int32))]))
    refine OGets.step (fun _ => XS.istore X398.here hx rfl (hb hby at_34) rfl (l' := #[.val (.int p0), .val (.int (7 : Int32)), .val (.ref (A 7)), .val (.int (1 : Int32)), .val (.int (1 : Int32))]) rfl) ?_
    show OGets p e below _ (T398.setTop (mkF m 36 #[.val (.int p0), .val (.int (7 : Int32)), .val (.ref (A 7)), .val (.int (1 : Int32)), .val (.int (1 : Int32))] []))
    refine OGets.step (fun _ => XS.iloadN X398.here hx rfl (hb hby at_36) rfl) ?_
    show OGets p e below _ (T398.setTop (mkF m 37 #[.val (.int p0), .val (.int (7 : Int32)), .val (.ref (A 7)), .val (.int (1 : Int32)), .val (.int (1 : Int32))] [(.int (1 : Int32))]))
    refine OGets.step (fun _ => XS.iloadN X398.here hx rfl (hb hby at_37) rfl) ?_
    show OGets p e below _ (T398.setTop (mkF m 38 #[.val (.int p0), .val (.int (7 : Int32)), .val (.ref (A 7)), .val (.int (1 : Int32)), .val (.int (1 : Int32))] [(.int (7 : Int32)), (.int (1 : Int32))]))
    obtain ⟨_, _, ⟨T400, L400, k400, n400⟩, -, X400, ⟨Lc400, hQ400, l400, y400, z400⟩, st400⟩ := Jvm.LawKit.callS X398 hx (y := (⟨"com/example/pelt/pelt/AxisListsOverlapPinLaw", "expected", "(I)Z"⟩ : MethodName)) hown (mvT hZ (hw _ (List.mem_of_getElem? (i := 29) rfl))) (mvT hZ (hw _ (List.mem_of_getElem? (i := 30) rfl))) (mvT hZ (hw _ (List.mem_of_getElem? (i := 3) rfl))) (mvT hZ (hw _ (List.mem_of_getElem? (i := 31) rfl))) (by decide) (backOf (W := 1) (rm_ex7 l Z a0 hw []  h0 n0  Z0 ) hZ (hw _ (List.mem_of_getElem? (i := 31) rfl)) (hw _ (List.mem_of_getElem? (i := 3) rfl)) (by decide) (by decide)) (g := (mkF m 38 #[.val (.int p0), .val (.int (7 : Int32)), .val (.ref (A 7)), .val (.int (1 : Int32)), .val (.int (1 : Int32))] [(.int (7 : Int32)), (.int (1 : Int32))])) rfl (by rw [hml]; rfl) (argsL := [(.int (7 : Int32))]) (rest := [(.int (1 : Int32))]) (lenOf pd_4 rfl) rfl (by show 2 * 0 + _ ≤ _; exact Nat.le_of_eq rfl) (hb hby at_38) (fun _ _ => ⟨rfl, e398, Nat.le_of_ble_eq_true rfl, Nat.le_of_ble_eq_true rfl⟩)
    dsimp only [Pt.U, Pt.locs, Pt.cells, Pt.slots] at X400 l400 y400 z400 st400 hQ400
    rw [l400, y400, z400] at X400
    obtain ⟨rfl, rfl, e400⟩ := hQ400
    have X400 : Stand p l e _ s m #[(.int p0)] below meth c T400 [] 0 0 := X400
    refine OGets.step st400 ?_
    show OGets p e below _ (T400.setTop (mkF m 41 #[.val (.int p0), .val (.int (7 : Int32)), .val (.ref (A 7)), .val (.int (1 : Int32)), .val (.int (1 : Int32))] [(.int (1 : Int32)), (.int (1 : Int32))]))
    refine OGets.step (fun _ => XS.icmpNo X400.here hx rfl (hb hby at_41) rfl (teq (by decide : (1 : Int32) = (1 : Int32))).2) ?_
    show OGets p e below _ (T400.setTop (mkF m 44 #[.val (.int p0), .val (.int (7 : Int32)), .val (.ref (A 7)), .val (.int (1 : Int32)), .val (.int (1 : Int32))] []))
    refine OGets.step (fun _ => XS.iload X400.here hx rfl (hb hby at_44) rfl) ?_
    show OGets p e below _ (T400.setTop (mkF m 46 #[.val (.int p0), .val (.int (7 : Int32)), .val (.ref (A 7)), .val (.int (1 : Int32)), .val (.int (1 : Int32))] [(.int (1 : Int32))]))
    refine OGets.step (fun _ => XS.ifNo X400.here hx rfl (hb hby at_46) rfl ((if0 _ _).trans (feq (by decide : ¬ ((1 : Int32) = (0 : Int32)))).1)) ?_
    show OGets p e below _ (T400.setTop (mkF m 49 #[.val (.int p0), .val (.int (7 : Int32)), .val (.ref (A 7)), .val (.int (1 : Int32)), .val (.int (1 : Int32))] []))
    refine OGets.step (fun _ => XS.iconst X400.here hx rfl (hb hby at_49)) ?_
    show OGets p e below _ (T400.setTop (mkF m 50 #[.val (.int p0), .val (.int (7 : Int32)), .val (.ref (A 7)), .val (.int (1 : Int32)), .val (.int (1 : Int32))] [(.int (1 : Int32))]))
    refine OGets.step (fun _ => XS.goto X400.here hx rfl (pc0 := 50) (pc' := 54) rfl (hb hby at_50) (by decide) (by decide)) ?_
    show OGets p e below _ (T400.setTop (mkF m 54 #[.val (.int p0), .val (.int (7 : Int32)), .val (.ref (A 7)), .val (.int (1 : Int32)), .val (.int (1 : Int32))] [(.int (1 : Int32))]))
    refine OGets.retN X400 hx hlk (t := .boolean) Bd.returns (by simp) (hb hby at_54) (Nat.le_of_ble_eq_true rfl) (Nat.le_of_ble_eq_true rfl) ?_
    exact ⟨rfl, N0⟩
  · show OGets p e below _ (s₁.setTop (mkF m 7 #[.val (.int p0), .unset, .unset, .unset, .unset] [(.int (8 : Int32))]))
    refine OGets.step (fun _ => XS.istoreN X0.here hx rfl (hb hby at_7) rfl (l' := #[.val (.int p0), .val (.int (8 : Int32)), .unset, .unset, .unset]) rfl) ?_
    show OGets p e below _ (s₁.setTop (mkF m 8 #[.val (.int p0), .val (.int (8 : Int32)), .unset, .unset, .unset] []))
    refine OGets.step (fun _ => XS.iloadN X0.here hx rfl (hb hby at_8) rfl) ?_
    show OGets p e below _ (s₁.setTop (mkF m 9 #[.val (.int p0), .val (.int (8 : Int32)), .unset, .unset, .unset] [(.int (8 : Int32))]))
    obtain ⟨_, _, ⟨T403, L403, k403, n403⟩, -, X403, ⟨Lc403, hQ403, l403, y403, z403⟩, st403⟩ := Jvm.LawKit.callS X0 hx (y := (⟨"com/example/pelt/pelt/AxisListsOverlapPinLaw", "pick", "(I)Lcom/example/pelt/pelt/Axis;"⟩ : MethodName)) hown (mvT hZ (hw _ (List.mem_of_getElem? (i := 1) rfl))) (mvT hZ (hw _ (List.mem_of_getElem? (i := 2) rfl))) (mvT hZ (hw _ (List.mem_of_getElem? (i := 3) rfl))) (mvT hZ (hw _ (List.mem_of_getElem? (i := 4) rfl))) (by decide) (backOf (W := 0) (rm_pk8 l Z a0 hw [] A h0 n0  Z0 hS hI) hZ (hw _ (List.mem_of_getElem? (i := 4) rfl)) (hw _ (List.mem_of_getElem? (i := 3) rfl)) (by decide) (by decide)) (g := (mkF m 9 #[.val (.int p0), .val (.int (8 : Int32)), .unset, .unset, .unset] [(.int (8 : Int32))])) rfl (by rw [hml]; rfl) (argsL := [(.int (8 : Int32))]) (rest := []) (lenOf pd_2 rfl) rfl (by show 2 * 0 + _ ≤ _; exact Nat.le_of_eq rfl) (hb hby at_9) (fun _ _ => ⟨rfl, e0, Nat.le_of_ble_eq_true rfl, Nat.le_of_ble_eq_true rfl⟩)
    dsimp only [Pt.U, Pt.locs, Pt.cells, Pt.slots] at X403 l403 y403 z403 st403 hQ403
    rw [l403, y403, z403] at X403
    obtain ⟨rfl, rfl, e403⟩ := hQ403
    have X403 : Stand p l e _ s m #[(.int p0)] below meth c T403 [] 0 0 := X403
    refine OGets.step st403 ?_
    show OGets p e below _ (T403.setTop (mkF m 12 #[.val (.int p0), .val (.int (8 : Int32)), .unset, .unset, .unset] [(.ref (A 8))]))
    refine OGets.step (fun _ => XS.astoreN X403.here hx rfl (hb hby at_12) rfl rfl (l' := #[.val (.int p0), .val (.int (8 : Int32)), .val (.ref (A 8)), .unset, .unset]) rfl) ?_
    show OGets p e below _ (T403.setTop (mkF m 13 #[.val (.int p0), .val (.int (8 : Int32)), .val (.ref (A 8)), .unset, .unset] []))
    refine OGets.step (fun _ => XS.aloadN X403.here hx rfl (hb hby at_13) rfl rfl) ?_
    show OGets p e below _ (T403.setTop (mkF m 14 #[.val (.int p0), .val (.int (8 : Int32)), .val (.ref (A 8)), .unset, .unset] [(.ref (A 8))]))
    obtain ⟨cq404, kq404, q404a, q404b, q404c⟩ := isOf hZ e403 (show Exa Z h0 (A 8) "com/example/pelt/pelt/Axis$9" from hE 8 (by decide))
    obtain ⟨_, _, ⟨T404, L404, k404, n404⟩, -, X404, ⟨Lc404, hQ404, l404, y404, z404⟩, st404⟩ := X403.virtualBack hx (y := (⟨"com/example/pelt/pelt/Axis", "listsOverlap", "()Z"⟩ : MethodName)) (z := (⟨"com/example/pelt/pelt/Axis", "listsOverlap", "()Z"⟩ : MethodName)) hown (mvT hZ (hw _ (List.mem_of_getElem? (i := 8) rfl))) (mvT hZ (hw _ (List.mem_of_getElem? (i := 9) rfl))) (notFace_of_selects (args := #[]) (mvT hZ (hw _ (List.mem_of_getElem? (i := 66) rfl)))) (mvT hZ (hw _ (List.mem_of_getElem? (i := 66) rfl))) (mvT hZ (hw _ (List.mem_of_getElem? (i := 10) rfl))) (by decide) (backOf (W := 0) (rm_lo8 l Z a0 hw [] A h0 n0  Z0 hS hI) hZ (hw _ (List.mem_of_getElem? (i := 12) rfl)) (hw _ (List.mem_of_getElem? (i := 6) rfl)) (by decide) (by decide)) q404a q404c (g := (mkF m 14 #[.val (.int p0), .val (.int (8 : Int32)), .val (.ref (A 8)), .unset, .unset] [(.ref (A 8))])) rfl (by rw [hml]; rfl) (Steps.refl _) (argsL := []) (rest := []) (lenOf pd_3 rfl) rfl (by show 2 * 0 + _ ≤ _; exact Nat.le_of_eq rfl) (hb hby at_14) (fun _ _ => ⟨rfl, e403, Nat.le_of_ble_eq_true rfl, Nat.le_of_ble_eq_true rfl⟩)
    dsimp only [Pt.U, Pt.locs, Pt.cells, Pt.slots] at X404 l404 y404 z404 st404 hQ404
    rw [l404, y404, z404] at X404
    obtain ⟨rfl, rfl, e404⟩ := hQ404
    have X404 : Stand p l e _ s m #[(.int p0)] below meth c T404 [] 0 0 := X404
    refine OGets.after st404 ?_
    show OGets p e below _ (T404.setTop (mkF m 17 #[.val (.int p0), .val (.int (8 : Int32)), .val (.ref (A 8)), .unset, .unset] [(.int (0 : Int32))]))
    refine OGets.step (fun _ => XS.istoreN X404.here hx rfl (hb hby at_17) rfl (l' := #[.val (.int p0), .val (.int (8 : Int32)), .val (.ref (A 8)), .val (.int (0 : Int32)), .unset]) rfl) ?_
    show OGets p e below _ (T404.setTop (mkF m 18 #[.val (.int p0), .val (.int (8 : Int32)), .val (.ref (A 8)), .val (.int (0 : Int32)), .unset] []))
    refine OGets.step (fun _ => XS.aloadN X404.here hx rfl (hb hby at_18) rfl rfl) ?_
    show OGets p e below _ (T404.setTop (mkF m 19 #[.val (.int p0), .val (.int (8 : Int32)), .val (.ref (A 8)), .val (.int (0 : Int32)), .unset] [(.ref (A 8))]))
    obtain ⟨cq405, kq405, q405a, q405b, q405c⟩ := isOf hZ e404 (show Exa Z h0 (A 8) "com/example/pelt/pelt/Axis$9" from hE 8 (by decide))
    obtain ⟨_, _, ⟨T405, L405, k405, n405⟩, -, X405, ⟨Lc405, hQ405, l405, y405, z405⟩, st405⟩ := X404.virtualBack hx (y := (⟨"com/example/pelt/pelt/Axis", "isReverse", "()Z"⟩ : MethodName)) (z := (⟨"com/example/pelt/pelt/Axis", "isReverse", "()Z"⟩ : MethodName)) hown (mvT hZ (hw _ (List.mem_of_getElem? (i := 23) rfl))) (mvT hZ (hw _ (List.mem_of_getElem? (i := 24) rfl))) (notFace_of_selects (args := #[]) (mvT hZ (hw _ (List.mem_of_getElem? (i := 67) rfl)))) (mvT hZ (hw _ (List.mem_of_getElem? (i := 67) rfl))) (mvT hZ (hw _ (List.mem_of_getElem? (i := 25) rfl))) (by decide) (backOf (W := 0) (rm_rv8 l Z a0 hw [] A h0 n0  Z0 hS hI) hZ (hw _ (List.mem_of_getElem? (i := 27) rfl)) (hw _ (List.mem_of_getElem? (i := 6) rfl)) (by decide) (by decide)) q405a q405c (g := (mkF m 19 #[.val (.int p0), .val (.int (8 : Int32)), .val (.ref (A 8)), .val (.int (0 : Int32)), .unset] [(.ref (A 8))])) rfl (by rw [hml]; rfl) (Steps.refl _) (argsL := []) (rest := []) (lenOf pd_3 rfl) rfl (by show 2 * 0 + _ ≤ _; exact Nat.le_of_eq rfl) (hb hby at_19) (fun _ _ => ⟨rfl, e404, Nat.le_of_ble_eq_true rfl, Nat.le_of_ble_eq_true rfl⟩)
    dsimp only [Pt.U, Pt.locs, Pt.cells, Pt.slots] at X405 l405 y405 z405 st405 hQ405
    rw [l405, y405, z405] at X405
    obtain ⟨rfl, rfl, e405⟩ := hQ405
    have X405 : Stand p l e _ s m #[(.int p0)] below meth c T405 [] 0 0 := X405
    refine OGets.after st405 ?_
    show OGets p e below _ (T405.setTop (mkF m 22 #[.val (.int p0), .val (.int (8 : Int32)), .val (.ref (A 8)), .val (.int (0 : Int32)), .unset] [(.int (0 : Int32))]))
    refine OGets.step (fun _ => XS.ifYes X405.here hx rfl (pc0 := 22) (pc' := 29) rfl (hb hby at_22) rfl ((if0 _ _).trans (teq (by decide : (0 : Int32) = (0 : Int32))).1) (by decide) (by decide)) ?_
    show OGets p e below _ (T405.setTop (mkF m 29 #[.val (.int p0), .val (.int (8 : Int32)), .val (.ref (A 8)), .val (.int (0 : Int32)), .unset] []))
    refine OGets.step (fun _ => XS.iconst X405.here hx rfl (hb hby at_29)) ?_
    show OGets p e below _ (T405.setTop (mkF m 30 #[.val (.int p0), .val (.int (8 : Int32)), .val (.ref (A 8)), .val (.int (0 : Int32)), .unset] [(.int (1 : Int32))]))
    refine OGets.step (fun _ => XS.goto X405.here hx rfl (pc0 := 30) (pc' := 34) rfl (hb hby at_30) (by decide) (by decide)) ?_
    show OGets p e below _ (T405.setTop (mkF m 34 #[.val (.int p0), .val (.int (8 : Int32)), .val (.ref (A 8)), .val (.int (0 : Int32)), .unset] [(.int (1 : Int32))]))
    refine OGets.step (fun _ => XS.istore X405.here hx rfl (hb hby at_34) rfl (l' := #[.val (.int p0), .val (.int (8 : Int32)), .val (.ref (A 8)), .val (.int (0 : Int32)), .val (.int (1 : Int32))]) rfl) ?_
    show OGets p e below _ (T405.setTop (mkF m 36 #[.val (.int p0), .val (.int (8 : Int32)), .val (.ref (A 8)), .val (.int (0 : Int32)), .val (.int (1 : Int32))] []))
    refine OGets.step (fun _ => XS.iloadN X405.here hx rfl (hb hby at_36) rfl) ?_
    show OGets p e below _ (T405.setTop (mkF m 37 #[.val (.int p0), .val (.int (8 : Int32)), .val (.ref (A 8)), .val (.int (0 : Int32)), .val (.int (1 : Int32))] [(.int (0 : Int32))]))
    refine OGets.step (fun _ => XS.iloadN X405.here hx rfl (hb hby at_37) rfl) ?_
    show OGets p e below _ (T405.setTop (mkF m 38 #[.val (.int p0), .val (.int (8 : Int32)), .val (.ref (A 8)), .val (.int (0 : Int32)), .val (.int (1 : Int32))] [(.int (8 : Int32)), (.int (0 : Int32))]))
    obtain ⟨_, _, ⟨T407, L407, k407, n407⟩, -, X407, ⟨Lc407, hQ407, l407, y407, z407⟩, st407⟩ := Jvm.LawKit.callS X405 hx (y := (⟨"com/example/pelt/pelt/AxisListsOverlapPinLaw", "expected", "(I)Z"⟩ : MethodName)) hown (mvT hZ (hw _ (List.mem_of_getElem? (i := 29) rfl))) (mvT hZ (hw _ (List.mem_of_getElem? (i := 30) rfl))) (mvT hZ (hw _ (List.mem_of_getElem? (i := 3) rfl))) (mvT hZ (hw _ (List.mem_of_getElem? (i := 31) rfl))) (by decide) (backOf (W := 1) (rm_ex8 l Z a0 hw []  h0 n0  Z0 ) hZ (hw _ (List.mem_of_getElem? (i := 31) rfl)) (hw _ (List.mem_of_getElem? (i := 3) rfl)) (by decide) (by decide)) (g := (mkF m 38 #[.val (.int p0), .val (.int (8 : Int32)), .val (.ref (A 8)), .val (.int (0 : Int32)), .val (.int (1 : Int32))] [(.int (8 : Int32)), (.int (0 : Int32))])) rfl (by rw [hml]; rfl) (argsL := [(.int (8 : Int32))]) (rest := [(.int (0 : Int32))]) (lenOf pd_4 rfl) rfl (by show 2 * 0 + _ ≤ _; exact Nat.le_of_eq rfl) (hb hby at_38) (fun _ _ => ⟨rfl, e405, Nat.le_of_ble_eq_true rfl, Nat.le_of_ble_eq_true rfl⟩)
    dsimp only [Pt.U, Pt.locs, Pt.cells, Pt.slots] at X407 l407 y407 z407 st407 hQ407
    rw [l407, y407, z407] at X407
    obtain ⟨rfl, rfl, e407⟩ := hQ407
    have X407 : Stand p l e _ s m #[(.int p0)] below meth c T407 [] 0 0 := X407
    refine OGets.step st407 ?_
    show OGets p e below _ (T407.setTop (mkF m 41 #[.val (.int p0), .val (.int (8 : Int32)), .val (.ref (A 8)), .val (.int (0 : Int32)), .val (.int (1 : Int32))] [(.int (0 : Int32)), (.int (0 : Int32))]))
    refine OGets.step (fun _ => XS.icmpNo X407.here hx rfl (hb hby at_41) rfl (teq (by decide : (0 : Int32) = (0 : Int32))).2) ?_
    show OGets p e below _ (T407.setTop (mkF m 44 #[.val (.int p0), .val (.int (8 : Int32)), .val (.ref (A 8)), .val (.int (0 : Int32)), .val (.int (1 : Int32))] []))
    refine OGets.step (fun _ => XS.iload X407.here hx rfl (hb hby at_44) rfl) ?_
    show OGets p e below _ (T407.setTop (mkF m 46 #[.val (.int p0), .val (.int (8 : Int32)), .val (.ref (A 8)), .val (.int (0 : Int32)), .val (.int (1 : Int32))] [(.int (1 : Int32))]))
    refine OGets.step (fun _ => XS.ifNo X407.here hx rfl (hb hby at_46) rfl ((if0 _ _).trans (feq (by decide : ¬ ((1 : Int32) = (0 : Int32)))).1)) ?_
    show OGets p e below _ (T407.setTop (mkF m 49 #[.val (.int p0), .val (.int (8 : Int32)), .val (.ref (A 8)), .val (.int (0 : Int32)), .val (.int (1 : Int32))] []))
    refine OGets.step (fun _ => XS.iconst X407.here hx rfl (hb hby at_49)) ?_
    show OGets p e below _ (T407.setTop (mkF m 50 #[.val (.int p0), .val (.int (8 : Int32)), .val (.ref (A 8)), .val (.int (0 : Int32)), .val (.int (1 : Int32))] [(.int (1 : Int32))]))
    refine OGets.step (fun _ => XS.goto X407.here hx rfl (pc0 := 50) (pc' := 54) rfl (hb hby at_50) (by decide) (by decide)) ?_
    show OGets p e below _ (T407.setTop (mkF m 54 #[.val (.int p0), .val (.int (8 : Int32)), .val (.ref (A 8)), .val (.int (0 : Int32)), .val (.int (1 : Int32))] [(.int (1 : Int32))]))
    refine OGets.retN X407 hx hlk (t := .boolean) Bd.returns (by simp) (hb hby at_54) (Nat.le_of_ble_eq_true rfl) (Nat.le_of_ble_eq_true rfl) ?_
    exact ⟨rfl, N0⟩
  · show OGets p e below _ (s₁.setTop (mkF m 7 #[.val (.int p0), .unset, .unset, .unset, .unset] [(.int (9 : Int32))]))
    refine OGets.step (fun _ => XS.istoreN X0.here hx rfl (hb hby at_7) rfl (l' := #[.val (.int p0), .val (.int (9 : Int32)), .unset, .unset, .unset]) rfl) ?_
    show OGets p e below _ (s₁.setTop (mkF m 8 #[.val (.int p0), .val (.int (9 : Int32)), .unset, .unset, .unset] []))
    refine OGets.step (fun _ => XS.iloadN X0.here hx rfl (hb hby at_8) rfl) ?_
    show OGets p e below _ (s₁.setTop (mkF m 9 #[.val (.int p0), .val (.int (9 : Int32)), .unset, .unset, .unset] [(.int (9 : Int32))]))
    obtain ⟨_, _, ⟨T410, L410, k410, n410⟩, -, X410, ⟨Lc410, hQ410, l410, y410, z410⟩, st410⟩ := Jvm.LawKit.callS X0 hx (y := (⟨"com/example/pelt/pelt/AxisListsOverlapPinLaw", "pick", "(I)Lcom/example/pelt/pelt/Axis;"⟩ : MethodName)) hown (mvT hZ (hw _ (List.mem_of_getElem? (i := 1) rfl))) (mvT hZ (hw _ (List.mem_of_getElem? (i := 2) rfl))) (mvT hZ (hw _ (List.mem_of_getElem? (i := 3) rfl))) (mvT hZ (hw _ (List.mem_of_getElem? (i := 4) rfl))) (by decide) (backOf (W := 0) (rm_pk9 l Z a0 hw [] A h0 n0  Z0 hS hI) hZ (hw _ (List.mem_of_getElem? (i := 4) rfl)) (hw _ (List.mem_of_getElem? (i := 3) rfl)) (by decide) (by decide)) (g := (mkF m 9 #[.val (.int p0), .val (.int (9 : Int32)), .unset, .unset, .unset] [(.int (9 : Int32))])) rfl (by rw [hml]; rfl) (argsL := [(.int (9 : Int32))]) (rest := []) (lenOf pd_2 rfl) rfl (by show 2 * 0 + _ ≤ _; exact Nat.le_of_eq rfl) (hb hby at_9) (fun _ _ => ⟨rfl, e0, Nat.le_of_ble_eq_true rfl, Nat.le_of_ble_eq_true rfl⟩)
    dsimp only [Pt.U, Pt.locs, Pt.cells, Pt.slots] at X410 l410 y410 z410 st410 hQ410
    rw [l410, y410, z410] at X410
    obtain ⟨rfl, rfl, e410⟩ := hQ410
    have X410 : Stand p l e _ s m #[(.int p0)] below meth c T410 [] 0 0 := X410
    refine OGets.step st410 ?_
    show OGets p e below _ (T410.setTop (mkF m 12 #[.val (.int p0), .val (.int (9 : Int32)), .unset, .unset, .unset] [(.ref (A 9))]))
    refine OGets.step (fun _ => XS.astoreN X410.here hx rfl (hb hby at_12) rfl rfl (l' := #[.val (.int p0), .val (.int (9 : Int32)), .val (.ref (A 9)), .unset, .unset]) rfl) ?_
    show OGets p e below _ (T410.setTop (mkF m 13 #[.val (.int p0), .val (.int (9 : Int32)), .val (.ref (A 9)), .unset, .unset] []))
    refine OGets.step (fun _ => XS.aloadN X410.here hx rfl (hb hby at_13) rfl rfl) ?_
    show OGets p e below _ (T410.setTop (mkF m 14 #[.val (.int p0), .val (.int (9 : Int32)), .val (.ref (A 9)), .unset, .unset] [(.ref (A 9))]))
    obtain ⟨cq411, kq411, q411a, q411b, q411c⟩ := isOf hZ e410 (show Exa Z h0 (A 9) "com/example/pelt/pelt/Axis$10" from hE 9 (by decide))
    obtain ⟨_, _, ⟨T411, L411, k411, n411⟩, -, X411, ⟨Lc411, hQ411, l411, y411, z411⟩, st411⟩ := X410.virtualBack hx (y := (⟨"com/example/pelt/pelt/Axis", "listsOverlap", "()Z"⟩ : MethodName)) (z := (⟨"com/example/pelt/pelt/Axis", "listsOverlap", "()Z"⟩ : MethodName)) hown (mvT hZ (hw _ (List.mem_of_getElem? (i := 8) rfl))) (mvT hZ (hw _ (List.mem_of_getElem? (i := 9) rfl))) (notFace_of_selects (args := #[]) (mvT hZ (hw _ (List.mem_of_getElem? (i := 54) rfl)))) (mvT hZ (hw _ (List.mem_of_getElem? (i := 54) rfl))) (mvT hZ (hw _ (List.mem_of_getElem? (i := 10) rfl))) (by decide) (backOf (W := 0) (rm_lo9 l Z a0 hw [] A h0 n0  Z0 hS hI) hZ (hw _ (List.mem_of_getElem? (i := 12) rfl)) (hw _ (List.mem_of_getElem? (i := 6) rfl)) (by decide) (by decide)) q411a q411c (g := (mkF m 14 #[.val (.int p0), .val (.int (9 : Int32)), .val (.ref (A 9)), .unset, .unset] [(.ref (A 9))])) rfl (by rw [hml]; rfl) (Steps.refl _) (argsL := []) (rest := []) (lenOf pd_3 rfl) rfl (by show 2 * 0 + _ ≤ _; exact Nat.le_of_eq rfl) (hb hby at_14) (fun _ _ => ⟨rfl, e410, Nat.le_of_ble_eq_true rfl, Nat.le_of_ble_eq_true rfl⟩)
    dsimp only [Pt.U, Pt.locs, Pt.cells, Pt.slots] at X411 l411 y411 z411 st411 hQ411
    rw [l411, y411, z411] at X411
    obtain ⟨rfl, rfl, e411⟩ := hQ411
    have X411 : Stand p l e _ s m #[(.int p0)] below meth c T411 [] 0 0 := X411
    refine OGets.after st411 ?_
    show OGets p e below _ (T411.setTop (mkF m 17 #[.val (.int p0), .val (.int (9 : Int32)), .val (.ref (A 9)), .unset, .unset] [(.int (0 : Int32))]))
    refine OGets.step (fun _ => XS.istoreN X411.here hx rfl (hb hby at_17) rfl (l' := #[.val (.int p0), .val (.int (9 : Int32)), .val (.ref (A 9)), .val (.int (0 : Int32)), .unset]) rfl) ?_
    show OGets p e below _ (T411.setTop (mkF m 18 #[.val (.int p0), .val (.int (9 : Int32)), .val (.ref (A 9)), .val (.int (0 : Int32)), .unset] []))
    refine OGets.step (fun _ => XS.aloadN X411.here hx rfl (hb hby at_18) rfl rfl) ?_
    show OGets p e below _ (T411.setTop (mkF m 19 #[.val (.int p0), .val (.int (9 : Int32)), .val (.ref (A 9)), .val (.int (0 : Int32)), .unset] [(.ref (A 9))]))
    obtain ⟨cq412, kq412, q412a, q412b, q412c⟩ := isOf hZ e411 (show Exa Z h0 (A 9) "com/example/pelt/pelt/Axis$10" from hE 9 (by decide))
    obtain ⟨_, _, ⟨T412, L412, k412, n412⟩, -, X412, ⟨Lc412, hQ412, l412, y412, z412⟩, st412⟩ := X411.virtualBack hx (y := (⟨"com/example/pelt/pelt/Axis", "isReverse", "()Z"⟩ : MethodName)) (z := (⟨"com/example/pelt/pelt/Axis", "isReverse", "()Z"⟩ : MethodName)) hown (mvT hZ (hw _ (List.mem_of_getElem? (i := 23) rfl))) (mvT hZ (hw _ (List.mem_of_getElem? (i := 24) rfl))) (notFace_of_selects (args := #[]) (mvT hZ (hw _ (List.mem_of_getElem? (i := 55) rfl)))) (mvT hZ (hw _ (List.mem_of_getElem? (i := 55) rfl))) (mvT hZ (hw _ (List.mem_of_getElem? (i := 25) rfl))) (by decide) (backOf (W := 0) (rm_rv9 l Z a0 hw [] A h0 n0  Z0 hS hI) hZ (hw _ (List.mem_of_getElem? (i := 27) rfl)) (hw _ (List.mem_of_getElem? (i := 6) rfl)) (by decide) (by decide)) q412a q412c (g := (mkF m 19 #[.val (.int p0), .val (.int (9 : Int32)), .val (.ref (A 9)), .val (.int (0 : Int32)), .unset] [(.ref (A 9))])) rfl (by rw [hml]; rfl) (Steps.refl _) (argsL := []) (rest := []) (lenOf pd_3 rfl) rfl (by show 2 * 0 + _ ≤ _; exact Nat.le_of_eq rfl) (hb hby at_19) (fun _ _ => ⟨rfl, e411, Nat.le_of_ble_eq_true rfl, Nat.le_of_ble_eq_true rfl⟩)
    dsimp only [Pt.U, Pt.locs, Pt.cells, Pt.slots] at X412 l412 y412 z412 st412 hQ412
    rw [l412, y412, z412] at X412
    obtain ⟨rfl, rfl, e412⟩ := hQ412
    have X412 : Stand p l e _ s m #[(.int p0)] below meth c T412 [] 0 0 := X412
    refine OGets.after st412 ?_
    show OGets p e below _ (T412.setTop (mkF m 22 #[.val (.int p0), .val (.int (9 : Int32)), .val (.ref (A 9)), .val (.int (0 : Int32)), .unset] [(.int (0 : Int32))]))
    refine OGets.step (fun _ => XS.ifYes X412.here hx rfl (pc0 := 22) (pc' := 29) rfl (hb hby at_22) rfl ((if0 _ _).trans (teq (by decide : (0 : Int32) = (0 : Int32))).1) (by decide) (by decide)) ?_
    show OGets p e below _ (T412.setTop (mkF m 29 #[.val (.int p0), .val (.int (9 : Int32)), .val (.ref (A 9)), .val (.int (0 : Int32)), .unset] []))
    refine OGets.step (fun _ => XS.iconst X412.here hx rfl (hb hby at_29)) ?_
    show OGets p e below _ (T412.setTop (mkF m 30 #[.val (.int p0), .val (.int (9 : Int32)), .val (.ref (A 9)), .val (.int (0 : Int32)), .unset] [(.int (1 : Int32))]))
    refine OGets.step (fun _ => XS.goto X412.here hx rfl (pc0 := 30) (pc' := 34) rfl (hb hby at_30) (by decide) (by decide)) ?_
    show OGets p e below _ (T412.setTop (mkF m 34 #[.val (.int p0), .val (.int (9 : Int32)), .val (.ref (A 9)), .val (.int (0 : Int32)), .unset] [(.int (1 : Int32))]))
    refine OGets.step (fun _ => XS.istore X412.here hx rfl (hb hby at_34) rfl (l' := #[.val (.int p0), .val (.int (9 : Int32)), .val (.ref (A 9)), .val (.int (0 : Int32)), .val (.int (1 : Int32))]) rfl) ?_
    show OGets p e below _ (T412.setTop (mkF m 36 #[.val (.int p0), .val (.int (9 : Int32)), .val (.ref (A 9)), .val (.int (0 : Int32)), .val (.int (1 : Int32))] []))
    refine OGets.step (fun _ => XS.iloadN X412.here hx rfl (hb hby at_36) rfl) ?_
    show OGets p e below _ (T412.setTop (mkF m 37 #[.val (.int p0), .val (.int (9 : Int32)), .val (.ref (A 9)), .val (.int (0 : Int32)), .val (.int (1 : Int32))] [(.int (0 : Int32))]))
    refine OGets.step (fun _ => XS.iloadN X412.here hx rfl (hb hby at_37) rfl) ?_
    show OGets p e below _ (T412.setTop (mkF m 38 #[.val (.int p0), .val (.int (9 : Int32)), .val (.ref (A 9)), .val (.int (0 : Int32)), .val (.int (1 : Int32))] [(.int (9 : Int32)), (.int (0 : Int32))]))
    obtain ⟨_, _, ⟨T414, L414, k414, n414⟩, -, X414, ⟨Lc414, hQ414, l414, y414, z414⟩, st414⟩ := Jvm.LawKit.callS X412 hx (y := (⟨"com/example/pelt/pelt/AxisListsOverlapPinLaw", "expected", "(I)Z"⟩ : MethodName)) hown (mvT hZ (hw _ (List.mem_of_getElem? (i := 29) rfl))) (mvT hZ (hw _ (List.mem_of_getElem? (i := 30) rfl))) (mvT hZ (hw _ (List.mem_of_getElem? (i := 3) rfl))) (mvT hZ (hw _ (List.mem_of_getElem? (i := 31) rfl))) (by decide) (backOf (W := 1) (rm_ex9 l Z a0 hw []  h0 n0  Z0 ) hZ (hw _ (List.mem_of_getElem? (i := 31) rfl)) (hw _ (List.mem_of_getElem? (i := 3) rfl)) (by decide) (by decide)) (g := (mkF m 38 #[.val (.int p0), .val (.int (9 : Int32)), .val (.ref (A 9)), .val (.int (0 : Int32)), .val (.int (1 : Int32))] [(.int (9 : Int32)), (.int (0 : Int32))])) rfl (by rw [hml]; rfl) (argsL := [(.int (9 : Int32))]) (rest := [(.int (0 : Int32))]) (lenOf pd_4 rfl) rfl (by show 2 * 0 + _ ≤ _; exact Nat.le_of_eq rfl) (hb hby at_38) (fun _ _ => ⟨rfl, e412, Nat.le_of_ble_eq_true rfl, Nat.le_of_ble_eq_true rfl⟩)
    dsimp only [Pt.U, Pt.locs, Pt.cells, Pt.slots] at X414 l414 y414 z414 st414 hQ414
    rw [l414, y414, z414] at X414
    obtain ⟨rfl, rfl, e414⟩ := hQ414
    have X414 : Stand p l e _ s m #[(.int p0)] below meth c T414 [] 0 0 := X414
    refine OGets.step st414 ?_
    show OGets p e below _ (T414.setTop (mkF m 41 #[.val (.int p0), .val (.int (9 : Int32)), .val (.ref (A 9)), .val (.int (0 : Int32)), .val (.int (1 : Int32))] [(.int (0 : Int32)), (.int (0 : Int32))]))
    refine OGets.step (fun _ => XS.icmpNo X414.here hx rfl (hb hby at_41) rfl (teq (by decide : (0 : Int32) = (0 : Int32))).2) ?_
    show OGets p e below _ (T414.setTop (mkF m 44 #[.val (.int p0), .val (.int (9 : Int32)), .val (.ref (A 9)), .val (.int (0 : Int32)), .val (.int (1 : Int32))] []))
    refine OGets.step (fun _ => XS.iload X414.here hx rfl (hb hby at_44) rfl) ?_
    show OGets p e below _ (T414.setTop (mkF m 46 #[.val (.int p0), .val (.int (9 : Int32)), .val (.ref (A 9)), .val (.int (0 : Int32)), .val (.int (1 : Int32))] [(.int (1 : Int32))]))
    refine OGets.step (fun _ => XS.ifNo X414.here hx rfl (hb hby at_46) rfl ((if0 _ _).trans (feq (by decide : ¬ ((1 : Int32) = (0 : Int32)))).1)) ?_
    show OGets p e below _ (T414.setTop (mkF m 49 #[.val (.int p0), .val (.int (9 : Int32)), .val (.ref (A 9)), .val (.int (0 : Int32)), .val (.int (1 : Int32))] []))
    refine OGets.step (fun _ => XS.iconst X414.here hx rfl (hb hby at_49)) ?_
    show OGets p e below _ (T414.setTop (mkF m 50 #[.val (.int p0), .val (.int (9 : Int32)), .val (.ref (A 9)), .val (.int (0 : Int32)), .val (.int (1 : Int32))] [(.int (1 : Int32))]))
    refine OGets.step (fun _ => XS.goto X414.here hx rfl (pc0 := 50) (pc' := 54) rfl (hb hby at_50) (by decide) (by decide)) ?_
    show OGets p e below _ (T414.setTop (mkF m 54 #[.val (.int p0), .val (.int (9 : Int32)), .val (.ref (A 9)), .val (.int (0 : Int32)), .val (.int (1 : Int32))] [(.int (1 : Int32))]))
    refine OGets.retN X414 hx hlk (t := .boolean) Bd.returns (by simp) (hb hby at_54) (Nat.le_of_ble_eq_true rfl) (Nat.le_of_ble_eq_true rfl) ?_
    exact ⟨rfl, N0⟩
  · show OGets p e below _ (s₁.setTop (mkF m 7 #[.val (.int p0), .unset, .unset, .unset, .unset] [(.int (10 : Int32))]))
    refine OGets.step (fun _ => XS.istoreN X0.here hx rfl (hb hby at_7) rfl (l' := #[.val (.int p0), .val (.int (10 : Int32)), .unset, .unset, .unset]) rfl) ?_
    show OGets p e below _ (s₁.setTop (mkF m 8 #[.val (.int p0), .val (.int (10 : Int32)), .unset, .unset, .unset] []))
    refine OGets.step (fun _ => XS.iloadN X0.here hx rfl (hb hby at_8) rfl) ?_
    show OGets p e below _ (s₁.setTop (mkF m 9 #[.val (.int p0), .val (.int (10 : Int32)), .unset, .unset, .unset] [(.int (10 : Int32))]))
    obtain ⟨_, _, ⟨T417, L417, k417, n417⟩, -, X417, ⟨Lc417, hQ417, l417, y417, z417⟩, st417⟩ := Jvm.LawKit.callS X0 hx (y := (⟨"com/example/pelt/pelt/AxisListsOverlapPinLaw", "pick", "(I)Lcom/example/pelt/pelt/Axis;"⟩ : MethodName)) hown (mvT hZ (hw _ (List.mem_of_getElem? (i := 1) rfl))) (mvT hZ (hw _ (List.mem_of_getElem? (i := 2) rfl))) (mvT hZ (hw _ (List.mem_of_getElem? (i := 3) rfl))) (mvT hZ (hw _ (List.mem_of_getElem? (i := 4) rfl))) (by decide) (backOf (W := 0) (rm_pk10 l Z a0 hw [] A h0 n0  Z0 hS hI) hZ (hw _ (List.mem_of_getElem? (i := 4) rfl)) (hw _ (List.mem_of_getElem? (i := 3) rfl)) (by decide) (by decide)) (g := (mkF m 9 #[.val (.int p0), .val (.int (10 : Int32)), .unset, .unset, .unset] [(.int (10 : Int32))])) rfl (by rw [hml]; rfl) (argsL := [(.int (10 : Int32))]) (rest := []) (lenOf pd_2 rfl) rfl (by show 2 * 0 + _ ≤ _; exact Nat.le_of_eq rfl) (hb hby at_9) (fun _ _ => ⟨rfl, e0, Nat.le_of_ble_eq_true rfl, Nat.le_of_ble_eq_true rfl⟩)
    dsimp only [Pt.U, Pt.locs, Pt.cells, Pt.slots] at X417 l417 y417 z417 st417 hQ417
    rw [l417, y417, z417] at X417
    obtain ⟨rfl, rfl, e417⟩ := hQ417
    have X417 : Stand p l e _ s m #[(.int p0)] below meth c T417 [] 0 0 := X417
    refine OGets.step st417 ?_
    show OGets p e below _ (T417.setTop (mkF m 12 #[.val (.int p0), .val (.int (10 : Int32)), .unset, .unset, .unset] [(.ref (A 10))]))
    refine OGets.step (fun _ => XS.astoreN X417.here hx rfl (hb hby at_12) rfl rfl (l' := #[.val (.int p0), .val (.int (10 : Int32)), .val (.ref (A 10)), .unset, .unset]) rfl) ?_
    show OGets p e below _ (T417.setTop (mkF m 13 #[.val (.int p0), .val (.int (10 : Int32)), .val (.ref (A 10)), .unset, .unset] []))
    refine OGets.step (fun _ => XS.aloadN X417.here hx rfl (hb hby at_13) rfl rfl) ?_
    show OGets p e below _ (T417.setTop (mkF m 14 #[.val (.int p0), .val (.int (10 : Int32)), .val (.ref (A 10)), .unset, .unset] [(.ref (A 10))]))
    obtain ⟨cq418, kq418, q418a, q418b, q418c⟩ := isOf hZ e417 (show Exa Z h0 (A 10) "com/example/pelt/pelt/Axis$11" from hE 10 (by decide))
    obtain ⟨_, _, ⟨T418, L418, k418, n418⟩, -, X418, ⟨Lc418, hQ418, l418, y418, z418⟩, st418⟩ := X417.virtualBack hx (y := (⟨"com/example/pelt/pelt/Axis", "listsOverlap", "()Z"⟩ : MethodName)) (z := (⟨"com/example/pelt/pelt/Axis", "listsOverlap", "()Z"⟩ : MethodName)) hown (mvT hZ (hw _ (List.mem_of_getElem? (i := 8) rfl))) (mvT hZ (hw _ (List.mem_of_getElem? (i := 9) rfl))) (notFace_of_selects (args := #[]) (mvT hZ (hw _ (List.mem_of_getElem? (i := 69) rfl)))) (mvT hZ (hw _ (List.mem_of_getElem? (i := 69) rfl))) (mvT hZ (hw _ (List.mem_of_getElem? (i := 10) rfl))) (by decide) (backOf (W := 0) (rm_lo10 l Z a0 hw [] A h0 n0  Z0 hS hI) hZ (hw _ (List.mem_of_getElem? (i := 12) rfl)) (hw _ (List.mem_of_getElem? (i := 6) rfl)) (by decide) (by decide)) q418a q418c (g := (mkF m 14 #[.val (.int p0), .val (.int (10 : Int32)), .val (.ref (A 10)), .unset, .unset] [(.ref (A 10))])) rfl (by rw [hml]; rfl) (Steps.refl _) (argsL := []) (rest := []) (lenOf pd_3 rfl) rfl (by show 2 * 0 + _ ≤ _; exact Nat.le_of_eq rfl) (hb hby at_14) (fun _ _ => ⟨rfl, e417, Nat.le_of_ble_eq_true rfl, Nat.le_of_ble_eq_true rfl⟩)
    dsimp only [Pt.U, Pt.locs, Pt.cells, Pt.slots] at X418 l418 y418 z418 st418 hQ418
    rw [l418, y418, z418] at X418
    obtain ⟨rfl, rfl, e418⟩ := hQ418
    have X418 : Stand p l e _ s m #[(.int p0)] below meth c T418 [] 0 0 := X418
    refine OGets.after st418 ?_
    show OGets p e below _ (T418.setTop (mkF m 17 #[.val (.int p0), .val (.int (10 : Int32)), .val (.ref (A 10)), .unset, .unset] [(.int (1 : Int32))]))
    refine OGets.step (fun _ => XS.istoreN X418.here hx rfl (hb hby at_17) rfl (l' := #[.val (.int p0), .val (.int (10 : Int32)), .val (.ref (A 10)), .val (.int (1 : Int32)), .unset]) rfl) ?_
    show OGets p e below _ (T418.setTop (mkF m 18 #[.val (.int p0), .val (.int (10 : Int32)), .val (.ref (A 10)), .val (.int (1 : Int32)), .unset] []))
    refine OGets.step (fun _ => XS.aloadN X418.here hx rfl (hb hby at_18) rfl rfl) ?_
    show OGets p e below _ (T418.setTop (mkF m 19 #[.val (.int p0), .val (.int (10 : Int32)), .val (.ref (A 10)), .val (.int (1 : Int32)), .unset] [(.ref (A 10))]))
    obtain ⟨cq419, kq419, q419a, q419b, q419c⟩ := isOf hZ e418 (show Exa Z h0 (A 10) "com/example/pelt/pelt/Axis$11" from hE 10 (by decide))
    obtain ⟨_, _, ⟨T419, L419, k419, n419⟩, -, X419, ⟨Lc419, hQ419, l419, y419, z419⟩, st419⟩ := X418.virtualBack hx (y := (⟨"com/example/pelt/pelt/Axis", "isReverse", "()Z"⟩ : MethodName)) (z := (⟨"com/example/pelt/pelt/Axis", "isReverse", "()Z"⟩ : MethodName)) hown (mvT hZ (hw _ (List.mem_of_getElem? (i := 23) rfl))) (mvT hZ (hw _ (List.mem_of_getElem? (i := 24) rfl))) (notFace_of_selects (args := #[]) (mvT hZ (hw _ (List.mem_of_getElem? (i := 70) rfl)))) (mvT hZ (hw _ (List.mem_of_getElem? (i := 70) rfl))) (mvT hZ (hw _ (List.mem_of_getElem? (i := 25) rfl))) (by decide) (backOf (W := 0) (rm_rv10 l Z a0 hw [] A h0 n0  Z0 hS hI) hZ (hw _ (List.mem_of_getElem? (i := 27) rfl)) (hw _ (List.mem_of_getElem? (i := 6) rfl)) (by decide) (by decide)) q419a q419c (g := (mkF m 19 #[.val (.int p0), .val (.int (10 : Int32)), .val (.ref (A 10)), .val (.int (1 : Int32)), .unset] [(.ref (A 10))])) rfl (by rw [hml]; rfl) (Steps.refl _) (argsL := []) (rest := []) (lenOf pd_3 rfl) rfl (by show 2 * 0 + _ ≤ _; exact Nat.le_of_eq rfl) (hb hby at_19) (fun _ _ => ⟨rfl, e418, Nat.le_of_ble_eq_true rfl, Nat.le_of_ble_eq_true rfl⟩)
    dsimp only [Pt.U, Pt.locs, Pt.cells, Pt.slots] at X419 l419 y419 z419 st419 hQ419
    rw [l419, y419, z419] at X419
    obtain ⟨rfl, rfl, e419⟩ := hQ419
    have X419 : Stand p l e _ s m #[(.int p0)] below meth c T419 [] 0 0 := X419
    refine OGets.after st419 ?_
    show OGets p e below _ (T419.setTop (mkF m 22 #[.val (.int p0), .val (.int (10 : Int32)), .val (.ref (A 10)), .val (.int (1 : Int32)), .unset] [(.int (1 : Int32))]))
    refine OGets.step (fun _ => XS.ifNo X419.here hx rfl (hb hby at_22) rfl ((if0 _ _).trans (feq (by decide : ¬ ((1 : Int32) = (0 : Int32)))).1)) ?_
    show OGets p e below _ (T419.setTop (mkF m 25 #[.val (.int p0), .val (.int (10 : Int32)), .val (.ref (A 10)), .val (.int (1 : Int32)), .unset] []))
    refine OGets.step (fun _ => XS.iloadN X419.here hx rfl (hb hby at_25) rfl) ?_
    show OGets p e below _ (T419.setTop (mkF m 26 #[.val (.int p0), .val (.int (10 : Int32)), .val (.ref (A 10)), .val (.int (1 : Int32)), .unset] [(.int (1 : Int32))]))
    refine OGets.step (fun _ => XS.ifNo X419.here hx rfl (hb hby at_26) rfl ((if0 _ _).trans (feq (by decide : ¬ ((1 : Int32) = (0 : Int32)))).1)) ?_
    show OGets p e below _ (T419.setTop (mkF m 29 #[.val (.int p0), .val (.int (10 : Int32)), .val (.ref (A 10)), .val (.int (1 : Int32)), .unset] []))
    refine OGets.step (fun _ => XS.iconst X419.here hx rfl (hb hby at_29)) ?_
    show OGets p e below _ (T419.setTop (mkF m 30 #[.val (.int p0), .val (.int (10 : Int32)), .val (.ref (A 10)), .val (.int (1 : Int32)), .unset] [(.int (1 : Int32))]))
    refine OGets.step (fun _ => XS.goto X419.here hx rfl (pc0 := 30) (pc' := 34) rfl (hb hby at_30) (by decide) (by decide)) ?_
    show OGets p e below _ (T419.setTop (mkF m 34 #[.val (.int p0), .val (.int (10 : Int32)), .val (.ref (A 10)), .val (.int (1 : Int32)), .unset] [(.int (1 : Int32))]))
    refine OGets.step (fun _ => XS.istore X419.here hx rfl (hb hby at_34) rfl (l' := #[.val (.int p0), .val (.int (10 : Int32)), .val (.ref (A 10)), .val (.int (1 : Int32)), .val (.int (1 : Int32))]) rfl) ?_
    show OGets p e below _ (T419.setTop (mkF m 36 #[.val (.int p0), .val (.int (10 : Int32)), .val (.ref (A 10)), .val (.int (1 : Int32)), .val (.int (1 : Int32))] []))
    refine OGets.step (fun _ => XS.iloadN X419.here hx rfl (hb hby at_36) rfl) ?_
    show OGets p e below _ (T419.setTop (mkF m 37 #[.val (.int p0), .val (.int (10 : Int32)), .val (.ref (A 10)), .val (.int (1 : Int32)), .val (.int (1 : Int32))] [(.int (1 : Int32))]))
    refine OGets.step (fun _ => XS.iloadN X419.here hx rfl (hb hby at_37) rfl) ?_
    show OGets p e below _ (T419.setTop (mkF m 38 #[.val (.int p0), .val (.int (10 : Int32)), .val (.ref (A 10)), .val (.int (1 : Int32)), .val (.int (1 : Int32))] [(.int (10 : Int32)), (.int (1 : Int32))]))
    obtain ⟨_, _, ⟨T422, L422, k422, n422⟩, -, X422, ⟨Lc422, hQ422, l422, y422, z422⟩, st422⟩ := Jvm.LawKit.callS X419 hx (y := (⟨"com/example/pelt/pelt/AxisListsOverlapPinLaw", "expected", "(I)Z"⟩ : MethodName)) hown (mvT hZ (hw _ (List.mem_of_getElem? (i := 29) rfl))) (mvT hZ (hw _ (List.mem_of_getElem? (i := 30) rfl))) (mvT hZ (hw _ (List.mem_of_getElem? (i := 3) rfl))) (mvT hZ (hw _ (List.mem_of_getElem? (i := 31) rfl))) (by decide) (backOf (W := 1) (rm_ex10 l Z a0 hw []  h0 n0  Z0 ) hZ (hw _ (List.mem_of_getElem? (i := 31) rfl)) (hw _ (List.mem_of_getElem? (i := 3) rfl)) (by decide) (by decide)) (g := (mkF m 38 #[.val (.int p0), .val (.int (10 : Int32)), .val (.ref (A 10)), .val (.int (1 : Int32)), .val (.int (1 : Int32))] [(.int (10 : Int32)), (.int (1 : Int32))])) rfl (by rw [hml]; rfl) (argsL := [(.int (10 : Int32))]) (rest := [(.int (1 : Int32))]) (lenOf pd_4 rfl) rfl (by show 2 * 0 + _ ≤ _; exact Nat.le_of_eq rfl) (hb hby at_38) (fun _ _ => ⟨rfl, e419, Nat.le_of_ble_eq_true rfl, Nat.le_of_ble_eq_true rfl⟩)
    dsimp only [Pt.U, Pt.locs, Pt.cells, Pt.slots] at X422 l422 y422 z422 st422 hQ422
    rw [l422, y422, z422] at X422
    obtain ⟨rfl, rfl, e422⟩ := hQ422
    have X422 : Stand p l e _ s m #[(.int p0)] below meth c T422 [] 0 0 := X422
    refine OGets.step st422 ?_
    show OGets p e below _ (T422.setTop (mkF m 41 #[.val (.int p0), .val (.int (10 : Int32)), .val (.ref (A 10)), .val (.int (1 : Int32)), .val (.int (1 : Int32))] [(.int (1 : Int32)), (.int (1 : Int32))]))
    refine OGets.step (fun _ => XS.icmpNo X422.here hx rfl (hb hby at_41) rfl (teq (by decide : (1 : Int32) = (1 : Int32))).2) ?_
    show OGets p e below _ (T422.setTop (mkF m 44 #[.val (.int p0), .val (.int (10 : Int32)), .val (.ref (A 10)), .val (.int (1 : Int32)), .val (.int (1 : Int32))] []))
    refine OGets.step (fun _ => XS.iload X422.here hx rfl (hb hby at_44) rfl) ?_
    show OGets p e below _ (T422.setTop (mkF m 46 #[.val (.int p0), .val (.int (10 : Int32)), .val (.ref (A 10)), .val (.int (1 : Int32)), .val (.int (1 : Int32))] [(.int (1 : Int32))]))
    refine OGets.step (fun _ => XS.ifNo X422.here hx rfl (hb hby at_46) rfl ((if0 _ _).trans (feq (by decide : ¬ ((1 : Int32) = (0 : Int32)))).1)) ?_
    show OGets p e below _ (T422.setTop (mkF m 49 #[.val (.int p0), .val (.int (10 : Int32)), .val (.ref (A 10)), .val (.int (1 : Int32)), .val (.int (1 : Int32))] []))
    refine OGets.step (fun _ => XS.iconst X422.here hx rfl (hb hby at_49)) ?_
    show OGets p e below _ (T422.setTop (mkF m 50 #[.val (.int p0), .val (.int (10 : Int32)), .val (.ref (A 10)), .val (.int (1 : Int32)), .val (.int (1 : Int32))] [(.int (1 : Int32))]))
    refine OGets.step (fun _ => XS.goto X422.here hx rfl (pc0 := 50) (pc' := 54) rfl (hb hby at_50) (by decide) (by decide)) ?_
    show OGets p e below _ (T422.setTop (mkF m 54 #[.val (.int p0), .val (.int (10 : Int32)), .val (.ref (A 10)), .val (.int (1 : Int32)), .val (.int (1 : Int32))] [(.int (1 : Int32))]))
    refine OGets.retN X422 hx hlk (t := .boolean) Bd.returns (by simp) (hb hby at_54) (Nat.le_of_ble_eq_true rfl) (Nat.le_of_ble_eq_true rfl) ?_
    exact ⟨rfl, N0⟩
  · show OGets p e below _ (s₁.setTop (mkF m 7 #[.val (.int p0), .unset, .unset, .unset, .unset] [(.int (11 : Int32))]))
    refine OGets.step (fun _ => XS.istoreN X0.here hx rfl (hb hby at_7) rfl (l' := #[.val (.int p0), .val (.int (11 : Int32)), .unset, .unset, .unset]) rfl) ?_
    show OGets p e below _ (s₁.setTop (mkF m 8 #[.val (.int p0), .val (.int (11 : Int32)), .unset, .unset, .unset] []))
    refine OGets.step (fun _ => XS.iloadN X0.here hx rfl (hb hby at_8) rfl) ?_
    show OGets p e below _ (s₁.setTop (mkF m 9 #[.val (.int p0), .val (.int (11 : Int32)), .unset, .unset, .unset] [(.int (11 : Int32))]))
    obtain ⟨_, _, ⟨T425, L425, k425, n425⟩, -, X425, ⟨Lc425, hQ425, l425, y425, z425⟩, st425⟩ := Jvm.LawKit.callS X0 hx (y := (⟨"com/example/pelt/pelt/AxisListsOverlapPinLaw", "pick", "(I)Lcom/example/pelt/pelt/Axis;"⟩ : MethodName)) hown (mvT hZ (hw _ (List.mem_of_getElem? (i := 1) rfl))) (mvT hZ (hw _ (List.mem_of_getElem? (i := 2) rfl))) (mvT hZ (hw _ (List.mem_of_getElem? (i := 3) rfl))) (mvT hZ (hw _ (List.mem_of_getElem? (i := 4) rfl))) (by decide) (backOf (W := 0) (rm_pk11 l Z a0 hw [] A h0 n0  Z0 hS hI) hZ (hw _ (List.mem_of_getElem? (i := 4) rfl)) (hw _ (List.mem_of_getElem? (i := 3) rfl)) (by decide) (by decide)) (g := (mkF m 9 #[.val (.int p0), .val (.int (11 : Int32)), .unset, .unset, .unset] [(.int (11 : Int32))])) rfl (by rw [hml]; rfl) (argsL := [(.int (11 : Int32))]) (rest := []) (lenOf pd_2 rfl) rfl (by show 2 * 0 + _ ≤ _; exact Nat.le_of_eq rfl) (hb hby at_9) (fun _ _ => ⟨rfl, e0, Nat.le_of_ble_eq_true rfl, Nat.le_of_ble_eq_true rfl⟩)
    dsimp only [Pt.U, Pt.locs, Pt.cells, Pt.slots] at X425 l425 y425 z425 st425 hQ425
    rw [l425, y425, z425] at X425
    obtain ⟨rfl, rfl, e425⟩ := hQ425
    have X425 : Stand p l e _ s m #[(.int p0)] below meth c T425 [] 0 0 := X425
    refine OGets.step st425 ?_
    show OGets p e below _ (T425.setTop (mkF m 12 #[.val (.int p0), .val (.int (11 : Int32)), .unset, .unset, .unset] [(.ref (A 11))]))
    refine OGets.step (fun _ => XS.astoreN X425.here hx rfl (hb hby at_12) rfl rfl (l' := #[.val (.int p0), .val (.int (11 : Int32)), .val (.ref (A 11)), .unset, .unset]) rfl) ?_
    show OGets p e below _ (T425.setTop (mkF m 13 #[.val (.int p0), .val (.int (11 : Int32)), .val (.ref (A 11)), .unset, .unset] []))
    refine OGets.step (fun _ => XS.aloadN X425.here hx rfl (hb hby at_13) rfl rfl) ?_
    show OGets p e below _ (T425.setTop (mkF m 14 #[.val (.int p0), .val (.int (11 : Int32)), .val (.ref (A 11)), .unset, .unset] [(.ref (A 11))]))
    obtain ⟨cq426, kq426, q426a, q426b, q426c⟩ := isOf hZ e425 (show Exa Z h0 (A 11) "com/example/pelt/pelt/Axis$12" from hE 11 (by decide))
    obtain ⟨_, _, ⟨T426, L426, k426, n426⟩, -, X426, ⟨Lc426, hQ426, l426, y426, z426⟩, st426⟩ := X425.virtualBack hx (y := (⟨"com/example/pelt/pelt/Axis", "listsOverlap", "()Z"⟩ : MethodName)) (z := (⟨"com/example/pelt/pelt/Axis", "listsOverlap", "()Z"⟩ : MethodName)) hown (mvT hZ (hw _ (List.mem_of_getElem? (i := 8) rfl))) (mvT hZ (hw _ (List.mem_of_getElem? (i := 9) rfl))) (notFace_of_selects (args := #[]) (mvT hZ (hw _ (List.mem_of_getElem? (i := 60) rfl)))) (mvT hZ (hw _ (List.mem_of_getElem? (i := 60) rfl))) (mvT hZ (hw _ (List.mem_of_getElem? (i := 10) rfl))) (by decide) (backOf (W := 0) (rm_lo11 l Z a0 hw [] A h0 n0  Z0 hS hI) hZ (hw _ (List.mem_of_getElem? (i := 12) rfl)) (hw _ (List.mem_of_getElem? (i := 6) rfl)) (by decide) (by decide)) q426a q426c (g := (mkF m 14 #[.val (.int p0), .val (.int (11 : Int32)), .val (.ref (A 11)), .unset, .unset] [(.ref (A 11))])) rfl (by rw [hml]; rfl) (Steps.refl _) (argsL := []) (rest := []) (lenOf pd_3 rfl) rfl (by show 2 * 0 + _ ≤ _; exact Nat.le_of_eq rfl) (hb hby at_14) (fun _ _ => ⟨rfl, e425, Nat.le_of_ble_eq_true rfl, Nat.le_of_ble_eq_true rfl⟩)
    dsimp only [Pt.U, Pt.locs, Pt.cells, Pt.slots] at X426 l426 y426 z426 st426 hQ426
    rw [l426, y426, z426] at X426
    obtain ⟨rfl, rfl, e426⟩ := hQ426
    have X426 : Stand p l e _ s m #[(.int p0)] below meth c T426 [] 0 0 := X426
    refine OGets.after st426 ?_
    show OGets p e below _ (T426.setTop (mkF m 17 #[.val (.int p0), .val (.int (11 : Int32)), .val (.ref (A 11)), .unset, .unset] [(.int (1 : Int32))]))
    refine OGets.step (fun _ => XS.istoreN X426.here hx rfl (hb hby at_17) rfl (l' := #[.val (.int p0), .val (.int (11 : Int32)), .val (.ref (A 11)), .val (.int (1 : Int32)), .unset]) rfl) ?_
    show OGets p e below _ (T426.setTop (mkF m 18 #[.val (.int p0), .val (.int (11 : Int32)), .val (.ref (A 11)), .val (.int (1 : Int32)), .unset] []))
    refine OGets.step (fun _ => XS.aloadN X426.here hx rfl (hb hby at_18) rfl rfl) ?_
    show OGets p e below _ (T426.setTop (mkF m 19 #[.val (.int p0), .val (.int (11 : Int32)), .val (.ref (A 11)), .val (.int (1 : Int32)), .unset] [(.ref (A 11))]))
    obtain ⟨cq427, kq427, q427a, q427b, q427c⟩ := isOf hZ e426 (show Exa Z h0 (A 11) "com/example/pelt/pelt/Axis$12" from hE 11 (by decide))
    obtain ⟨_, _, ⟨T427, L427, k427, n427⟩, -, X427, ⟨Lc427, hQ427, l427, y427, z427⟩, st427⟩ := X426.virtualBack hx (y := (⟨"com/example/pelt/pelt/Axis", "isReverse", "()Z"⟩ : MethodName)) (z := (⟨"com/example/pelt/pelt/Axis", "isReverse", "()Z"⟩ : MethodName)) hown (mvT hZ (hw _ (List.mem_of_getElem? (i := 23) rfl))) (mvT hZ (hw _ (List.mem_of_getElem? (i := 24) rfl))) (notFace_of_selects (args := #[]) (mvT hZ (hw _ (List.mem_of_getElem? (i := 61) rfl)))) (mvT hZ (hw _ (List.mem_of_getElem? (i := 61) rfl))) (mvT hZ (hw _ (List.mem_of_getElem? (i := 25) rfl))) (by decide) (backOf (W := 0) (rm_rv11 l Z a0 hw [] A h0 n0  Z0 hS hI) hZ (hw _ (List.mem_of_getElem? (i := 27) rfl)) (hw _ (List.mem_of_getElem? (i := 6) rfl)) (by decide) (by decide)) q427a q427c (g := (mkF m 19 #[.val (.int p0), .val (.int (11 : Int32)), .val (.ref (A 11)), .val (.int (1 : Int32)), .unset] [(.ref (A 11))])) rfl (by rw [hml]; rfl) (Steps.refl _) (argsL := []) (rest := []) (lenOf pd_3 rfl) rfl (by show 2 * 0 + _ ≤ _; exact Nat.le_of_eq rfl) (hb hby at_19) (fun _ _ => ⟨rfl, e426, Nat.le_of_ble_eq_true rfl, Nat.le_of_ble_eq_true rfl⟩)
    dsimp only [Pt.U, Pt.locs, Pt.cells, Pt.slots] at X427 l427 y427 z427 st427 hQ427
    rw [l427, y427, z427] at X427
    obtain ⟨rfl, rfl, e427⟩ := hQ427
    have X427 : Stand p l e _ s m #[(.int p0)] below meth c T427 [] 0 0 := X427
    refine OGets.after st427 ?_
    show OGets p e below _ (T427.setTop (mkF m 22 #[.val (.int p0), .val (.int (11 : Int32)), .val (.ref (A 11)), .val (.int (1 : Int32)), .unset] [(.int (1 : Int32))]))
    refine OGets.step (fun _ => XS.ifNo X427.here hx rfl (hb hby at_22) rfl ((if0 _ _).trans (feq (by decide : ¬ ((1 : Int32) = (0 : Int32)))).1)) ?_
    show OGets p e below _ (T427.setTop (mkF m 25 #[.val (.int p0), .val (.int (11 : Int32)), .val (.ref (A 11)), .val (.int (1 : Int32)), .unset] []))
    refine OGets.step (fun _ => XS.iloadN X427.here hx rfl (hb hby at_25) rfl) ?_
    show OGets p e below _ (T427.setTop (mkF m 26 #[.val (.int p0), .val (.int (11 : Int32)), .val (.ref (A 11)), .val (.int (1 : Int32)), .unset] [(.int (1 : Int32))]))
    refine OGets.step (fun _ => XS.ifNo X427.here hx rfl (hb hby at_26) rfl ((if0 _ _).trans (feq (by decide : ¬ ((1 : Int32) = (0 : Int32)))).1)) ?_
    show OGets p e below _ (T427.setTop (mkF m 29 #[.val (.int p0), .val (.int (11 : Int32)), .val (.ref (A 11)), .val (.int (1 : Int32)), .unset] []))
    refine OGets.step (fun _ => XS.iconst X427.here hx rfl (hb hby at_29)) ?_
    show OGets p e below _ (T427.setTop (mkF m 30 #[.val (.int p0), .val (.int (11 : Int32)), .val (.ref (A 11)), .val (.int (1 : Int32)), .unset] [(.int (1 : Int32))]))
    refine OGets.step (fun _ => XS.goto X427.here hx rfl (pc0 := 30) (pc' := 34) rfl (hb hby at_30) (by decide) (by decide)) ?_
    show OGets p e below _ (T427.setTop (mkF m 34 #[.val (.int p0), .val (.int (11 : Int32)), .val (.ref (A 11)), .val (.int (1 : Int32)), .unset] [(.int (1 : Int32))]))
    refine OGets.step (fun _ => XS.istore X427.here hx rfl (hb hby at_34) rfl (l' := #[.val (.int p0), .val (.int (11 : Int32)), .val (.ref (A 11)), .val (.int (1 : Int32)), .val (.int (1 : Int32))]) rfl) ?_
    show OGets p e below _ (T427.setTop (mkF m 36 #[.val (.int p0), .val (.int (11 : Int32)), .val (.ref (A 11)), .val (.int (1 : Int32)), .val (.int (1 : Int32))] []))
    refine OGets.step (fun _ => XS.iloadN X427.here hx rfl (hb hby at_36) rfl) ?_
    show OGets p e below _ (T427.setTop (mkF m 37 #[.val (.int p0), .val (.int (11 : Int32)), .val (.ref (A 11)), .val (.int (1 : Int32)), .val (.int (1 : Int32))] [(.int (1 : Int32))]))
    refine OGets.step (fun _ => XS.iloadN X427.here hx rfl (hb hby at_37) rfl) ?_
    show OGets p e below _ (T427.setTop (mkF m 38 #[.val (.int p0), .val (.int (11 : Int32)), .val (.ref (A 11)), .val (.int (1 : Int32)), .val (.int (1 : Int32))] [(.int (11 : Int32)), (.int (1 : Int32))]))
    obtain ⟨_, _, ⟨T430, L430, k430, n430⟩, -, X430, ⟨Lc430, hQ430, l430, y430, z430⟩, st430⟩ := Jvm.LawKit.callS X427 hx (y := (⟨"com/example/pelt/pelt/AxisListsOverlapPinLaw", "expected", "(I)Z"⟩ : MethodName)) hown (mvT hZ (hw _ (List.mem_of_getElem? (i := 29) rfl))) (mvT hZ (hw _ (List.mem_of_getElem? (i := 30) rfl))) (mvT hZ (hw _ (List.mem_of_getElem? (i := 3) rfl))) (mvT hZ (hw _ (List.mem_of_getElem? (i := 31) rfl))) (by decide) (backOf (W := 1) (rm_ex11 l Z a0 hw []  h0 n0  Z0 ) hZ (hw _ (List.mem_of_getElem? (i := 31) rfl)) (hw _ (List.mem_of_getElem? (i := 3) rfl)) (by decide) (by decide)) (g := (mkF m 38 #[.val (.int p0), .val (.int (11 : Int32)), .val (.ref (A 11)), .val (.int (1 : Int32)), .val (.int (1 : Int32))] [(.int (11 : Int32)), (.int (1 : Int32))])) rfl (by rw [hml]; rfl) (argsL := [(.int (11 : Int32))]) (rest := [(.int (1 : Int32))]) (lenOf pd_4 rfl) rfl (by show 2 * 0 + _ ≤ _; exact Nat.le_of_eq rfl) (hb hby at_38) (fun _ _ => ⟨rfl, e427, Nat.le_of_ble_eq_true rfl, Nat.le_of_ble_eq_true rfl⟩)
    dsimp only [Pt.U, Pt.locs, Pt.cells, Pt.slots] at X430 l430 y430 z430 st430 hQ430
    rw [l430, y430, z430] at X430
    obtain ⟨rfl, rfl, e430⟩ := hQ430
    have X430 : Stand p l e _ s m #[(.int p0)] below meth c T430 [] 0 0 := X430
    refine OGets.step st430 ?_
    show OGets p e below _ (T430.setTop (mkF m 41 #[.val (.int p0), .val (.int (11 : Int32)), .val (.ref (A 11)), .val (.int (1 : Int32)), .val (.int (1 : Int32))] [(.int (1 : Int32)), (.int (1 : Int32))]))
    refine OGets.step (fun _ => XS.icmpNo X430.here hx rfl (hb hby at_41) rfl (teq (by decide : (1 : Int32) = (1 : Int32))).2) ?_
    show OGets p e below _ (T430.setTop (mkF m 44 #[.val (.int p0), .val (.int (11 : Int32)), .val (.ref (A 11)), .val (.int (1 : Int32)), .val (.int (1 : Int32))] []))
    refine OGets.step (fun _ => XS.iload X430.here hx rfl (hb hby at_44) rfl) ?_
    show OGets p e below _ (T430.setTop (mkF m 46 #[.val (.int p0), .val (.int (11 : Int32)), .val (.ref (A 11)), .val (.int (1 : Int32)), .val (.int (1 : Int32))] [(.int (1 : Int32))]))
    refine OGets.step (fun _ => XS.ifNo X430.here hx rfl (hb hby at_46) rfl ((if0 _ _).trans (feq (by decide : ¬ ((1 : Int32) = (0 : Int32)))).1)) ?_
    show OGets p e below _ (T430.setTop (mkF m 49 #[.val (.int p0), .val (.int (11 : Int32)), .val (.ref (A 11)), .val (.int (1 : Int32)), .val (.int (1 : Int32))] []))
    refine OGets.step (fun _ => XS.iconst X430.here hx rfl (hb hby at_49)) ?_
    show OGets p e below _ (T430.setTop (mkF m 50 #[.val (.int p0), .val (.int (11 : Int32)), .val (.ref (A 11)), .val (.int (1 : Int32)), .val (.int (1 : Int32))] [(.int (1 : Int32))]))
    refine OGets.step (fun _ => XS.goto X430.here hx rfl (pc0 := 50) (pc' := 54) rfl (hb hby at_50) (by decide) (by decide)) ?_
    show OGets p e below _ (T430.setTop (mkF m 54 #[.val (.int p0), .val (.int (11 : Int32)), .val (.ref (A 11)), .val (.int (1 : Int32)), .val (.int (1 : Int32))] [(.int (1 : Int32))]))
    refine OGets.retN X430 hx hlk (t := .boolean) Bd.returns (by simp) (hb hby at_54) (Nat.le_of_ble_eq_true rfl) (Nat.le_of_ble_eq_true rfl) ?_
    exact ⟨rfl, N0⟩
  · show OGets p e below _ (s₁.setTop (mkF m 7 #[.val (.int p0), .unset, .unset, .unset, .unset] [(.int (12 : Int32))]))
    refine OGets.step (fun _ => XS.istoreN X0.here hx rfl (hb hby at_7) rfl (l' := #[.val (.int p0), .val (.int (12 : Int32)), .unset, .unset, .unset]) rfl) ?_
    show OGets p e below _ (s₁.setTop (mkF m 8 #[.val (.int p0), .val (.int (12 : Int32)), .unset, .unset, .unset] []))
    refine OGets.step (fun _ => XS.iloadN X0.here hx rfl (hb hby at_8) rfl) ?_
    show OGets p e below _ (s₁.setTop (mkF m 9 #[.val (.int p0), .val (.int (12 : Int32)), .unset, .unset, .unset] [(.int (12 : Int32))]))
    obtain ⟨_, _, ⟨T433, L433, k433, n433⟩, -, X433, ⟨Lc433, hQ433, l433, y433, z433⟩, st433⟩ := Jvm.LawKit.callS X0 hx (y := (⟨"com/example/pelt/pelt/AxisListsOverlapPinLaw", "pick", "(I)Lcom/example/pelt/pelt/Axis;"⟩ : MethodName)) hown (mvT hZ (hw _ (List.mem_of_getElem? (i := 1) rfl))) (mvT hZ (hw _ (List.mem_of_getElem? (i := 2) rfl))) (mvT hZ (hw _ (List.mem_of_getElem? (i := 3) rfl))) (mvT hZ (hw _ (List.mem_of_getElem? (i := 4) rfl))) (by decide) (backOf (W := 0) (rm_pk12 l Z a0 hw [] A h0 n0  Z0 hS hI) hZ (hw _ (List.mem_of_getElem? (i := 4) rfl)) (hw _ (List.mem_of_getElem? (i := 3) rfl)) (by decide) (by decide)) (g := (mkF m 9 #[.val (.int p0), .val (.int (12 : Int32)), .unset, .unset, .unset] [(.int (12 : Int32))])) rfl (by rw [hml]; rfl) (argsL := [(.int (12 : Int32))]) (rest := []) (lenOf pd_2 rfl) rfl (by show 2 * 0 + _ ≤ _; exact Nat.le_of_eq rfl) (hb hby at_9) (fun _ _ => ⟨rfl, e0, Nat.le_of_ble_eq_true rfl, Nat.le_of_ble_eq_true rfl⟩)
    dsimp only [Pt.U, Pt.locs, Pt.cells, Pt.slots] at X433 l433 y433 z433 st433 hQ433
    rw [l433, y433, z433] at X433
    obtain ⟨rfl, rfl, e433⟩ := hQ433
    have X433 : Stand p l e _ s m #[(.int p0)] below meth c T433 [] 0 0 := X433
    refine OGets.step st433 ?_
    show OGets p e below _ (T433.setTop (mkF m 12 #[.val (.int p0), .val (.int (12 : Int32)), .unset, .unset, .unset] [(.ref (A 12))]))
    refine OGets.step (fun _ => XS.astoreN X433.here hx rfl (hb hby at_12) rfl rfl (l' := #[.val (.int p0), .val (.int (12 : Int32)), .val (.ref (A 12)), .unset, .unset]) rfl) ?_
    show OGets p e below _ (T433.setTop (mkF m 13 #[.val (.int p0), .val (.int (12 : Int32)), .val (.ref (A 12)), .unset, .unset] []))
    refine OGets.step (fun _ => XS.aloadN X433.here hx rfl (hb hby at_13) rfl rfl) ?_
    show OGets p e below _ (T433.setTop (mkF m 14 #[.val (.int p0), .val (.int (12 : Int32)), .val (.ref (A 12)), .unset, .unset] [(.ref (A 12))]))
    obtain ⟨cq434, kq434, q434a, q434b, q434c⟩ := isOf hZ e433 (show Exa Z h0 (A 12) "com/example/pelt/pelt/Axis$13" from hE 12 (by decide))
    obtain ⟨_, _, ⟨T434, L434, k434, n434⟩, -, X434, ⟨Lc434, hQ434, l434, y434, z434⟩, st434⟩ := X433.virtualBack hx (y := (⟨"com/example/pelt/pelt/Axis", "listsOverlap", "()Z"⟩ : MethodName)) (z := (⟨"com/example/pelt/pelt/Axis", "listsOverlap", "()Z"⟩ : MethodName)) hown (mvT hZ (hw _ (List.mem_of_getElem? (i := 8) rfl))) (mvT hZ (hw _ (List.mem_of_getElem? (i := 9) rfl))) (notFace_of_selects (args := #[]) (mvT hZ (hw _ (List.mem_of_getElem? (i := 72) rfl)))) (mvT hZ (hw _ (List.mem_of_getElem? (i := 72) rfl))) (mvT hZ (hw _ (List.mem_of_getElem? (i := 10) rfl))) (by decide) (backOf (W := 0) (rm_lo12 l Z a0 hw [] A h0 n0  Z0 hS hI) hZ (hw _ (List.mem_of_getElem? (i := 12) rfl)) (hw _ (List.mem_of_getElem? (i := 6) rfl)) (by decide) (by decide)) q434a q434c (g := (mkF m 14 #[.val (.int p0), .val (.int (12 : Int32)), .val (.ref (A 12)), .unset, .unset] [(.ref (A 12))])) rfl (by rw [hml]; rfl) (Steps.refl _) (argsL := []) (rest := []) (lenOf pd_3 rfl) rfl (by show 2 * 0 + _ ≤ _; exact Nat.le_of_eq rfl) (hb hby at_14) (fun _ _ => ⟨rfl, e433, Nat.le_of_ble_eq_true rfl, Nat.le_of_ble_eq_true rfl⟩)
    dsimp only [Pt.U, Pt.locs, Pt.cells, Pt.slots] at X434 l434 y434 z434 st434 hQ434
    rw [l434, y434, z434] at X434
    obtain ⟨rfl, rfl, e434⟩ := hQ434
    have X434 : Stand p l e _ s m #[(.int p0)] below meth c T434 [] 0 0 := X434
    refine OGets.after st434 ?_
    show OGets p e below _ (T434.setTop (mkF m 17 #[.val (.int p0), .val (.int (12 : Int32)), .val (.ref (A 12)), .unset, .unset] [(.int (0 : Int32))]))
    refine OGets.step (fun _ => XS.istoreN X434.here hx rfl (hb hby at_17) rfl (l' := #[.val (.int p0), .val (.int (12 : Int32)), .val (.ref (A 12)), .val (.int (0 : Int32)), .unset]) rfl) ?_
    show OGets p e below _ (T434.setTop (mkF m 18 #[.val (.int p0), .val (.int (12 : Int32)), .val (.ref (A 12)), .val (.int (0 : Int32)), .unset] []))
    refine OGets.step (fun _ => XS.aloadN X434.here hx rfl (hb hby at_18) rfl rfl) ?_
    show OGets p e below _ (T434.setTop (mkF m 19 #[.val (.int p0), .val (.int (12 : Int32)), .val (.ref (A 12)), .val (.int (0 : Int32)), .unset] [(.ref (A 12))]))
    obtain ⟨cq435, kq435, q435a, q435b, q435c⟩ := isOf hZ e434 (show Exa Z h0 (A 12) "com/example/pelt/pelt/Axis$13" from hE 12 (by decide))
    obtain ⟨_, _, ⟨T435, L435, k435, n435⟩, -, X435, ⟨Lc435, hQ435, l435, y435, z435⟩, st435⟩ := X434.virtualBack hx (y := (⟨"com/example/pelt/pelt/Axis", "isReverse", "()Z"⟩ : MethodName)) (z := (⟨"com/example/pelt/pelt/Axis", "isReverse", "()Z"⟩ : MethodName)) hown (mvT hZ (hw _ (List.mem_of_getElem? (i := 23) rfl))) (mvT hZ (hw _ (List.mem_of_getElem? (i := 24) rfl))) (notFace_of_selects (args := #[]) (mvT hZ (hw _ (List.mem_of_getElem? (i := 73) rfl)))) (mvT hZ (hw _ (List.mem_of_getElem? (i := 73) rfl))) (mvT hZ (hw _ (List.mem_of_getElem? (i := 25) rfl))) (by decide) (backOf (W := 0) (rm_rv12 l Z a0 hw [] A h0 n0  Z0 hS hI) hZ (hw _ (List.mem_of_getElem? (i := 27) rfl)) (hw _ (List.mem_of_getElem? (i := 6) rfl)) (by decide) (by decide)) q435a q435c (g := (mkF m 19 #[.val (.int p0), .val (.int (12 : Int32)), .val (.ref (A 12)), .val (.int (0 : Int32)), .unset] [(.ref (A 12))])) rfl (by rw [hml]; rfl) (Steps.refl _) (argsL := []) (rest := []) (lenOf pd_3 rfl) rfl (by show 2 * 0 + _ ≤ _; exact Nat.le_of_eq rfl) (hb hby at_19) (fun _ _ => ⟨rfl, e434, Nat.le_of_ble_eq_true rfl, Nat.le_of_ble_eq_true rfl⟩)
    dsimp only [Pt.U, Pt.locs, Pt.cells, Pt.slots] at X435 l435 y435 z435 st435 hQ435
    rw [l435, y435, z435] at X435
    obtain ⟨rfl, rfl, e435⟩ := hQ435
    have X435 : Stand p l e _ s m #[(.int p0)] below meth c T435 [] 0 0 := X435
    refine OGets.after st435 ?_
    show OGets p e below _ (T435.setTop (mkF m 22 #[.val (.int p0), .val (.int (12 : Int32)), .val (.ref (A 12)), .val (.int (0 : Int32)), .unset] [(.int (0 : Int32))]))
    refine OGets.step (fun _ => XS.ifYes X435.here hx rfl (pc0 := 22) (pc' := 29) rfl (hb hby at_22) rfl ((if0 _ _).trans (teq (by decide : (0 : Int32) = (0 : Int32))).1) (by decide) (by decide)) ?_
    show OGets p e below _ (T435.setTop (mkF m 29 #[.val (.int p0), .val (.int (12 : Int32)), .val (.ref (A 12)), .val (.int (0 : Int32)), .unset] []))
    refine OGets.step (fun _ => XS.iconst X435.here hx rfl (hb hby at_29)) ?_
    show OGets p e below _ (T435.setTop (mkF m 30 #[.val (.int p0), .val (.int (12 : Int32)), .val (.ref (A 12)), .val (.int (0 : Int32)), .unset] [(.int (1 : Int32))]))
    refine OGets.step (fun _ => XS.goto X435.here hx rfl (pc0 := 30) (pc' := 34) rfl (hb hby at_30) (by decide) (by decide)) ?_
    show OGets p e below _ (T435.setTop (mkF m 34 #[.val (.int p0), .val (.int (12 : Int32)), .val (.ref (A 12)), .val (.int (0 : Int32)), .unset] [(.int (1 : Int32))]))
    refine OGets.step (fun _ => XS.istore X435.here hx rfl (hb hby at_34) rfl (l' := #[.val (.int p0), .val (.int (12 : Int32)), .val (.ref (A 12)), .val (.int (0 : Int32)), .val (.int (1 : Int32))]) rfl) ?_
    show OGets p e below _ (T435.setTop (mkF m 36 #[.val (.int p0), .val (.int (12 : Int32)), .val (.ref (A 12)), .val (.int (0 : Int32)), .val (.int (1 : Int32))] []))
    refine OGets.step (fun _ => XS.iloadN X435.here hx rfl (hb hby at_36) rfl) ?_
    show OGets p e below _ (T435.setTop (mkF m 37 #[.val (.int p0), .val (.int (12 : Int32)), .val (.ref (A 12)), .val (.int (0 : Int32)), .val (.int (1 : Int32))] [(.int (0 : Int32))]))
    refine OGets.step (fun _ => XS.iloadN X435.here hx rfl (hb hby at_37) rfl) ?_
    show OGets p e below _ (T435.setTop (mkF m 38 #[.val (.int p0), .val (.int (12 : Int32)), .val (.ref (A 12)), .val (.int (0 : Int32)), .val (.int (1 : Int32))] [(.int (12 : Int32)), (.int (0 : Int32))]))
    obtain ⟨_, _, ⟨T437, L437, k437, n437⟩, -, X437, ⟨Lc437, hQ437, l437, y437, z437⟩, st437⟩ := Jvm.LawKit.callS X435 hx (y := (⟨"com/example/pelt/pelt/AxisListsOverlapPinLaw", "expected", "(I)Z"⟩ : MethodName)) hown (mvT hZ (hw _ (List.mem_of_getElem? (i := 29) rfl))) (mvT hZ (hw _ (List.mem_of_getElem? (i := 30) rfl))) (mvT hZ (hw _ (List.mem_of_getElem? (i := 3) rfl))) (mvT hZ (hw _ (List.mem_of_getElem? (i := 31) rfl))) (by decide) (backOf (W := 1) (rm_ex12 l Z a0 hw []  h0 n0  Z0 ) hZ (hw _ (List.mem_of_getElem? (i := 31) rfl)) (hw _ (List.mem_of_getElem? (i := 3) rfl)) (by decide) (by decide)) (g := (mkF m 38 #[.val (.int p0), .val (.int (12 : Int32)), .val (.ref (A 12)), .val (.int (0 : Int32)), .val (.int (1 : Int32))] [(.int (12 : Int32)), (.int (0 : Int32))])) rfl (by rw [hml]; rfl) (argsL := [(.int (12 : Int32))]) (rest := [(.int (0 : Int32))]) (lenOf pd_4 rfl) rfl (by show 2 * 0 + _ ≤ _; exact Nat.le_of_eq rfl) (hb hby at_38) (fun _ _ => ⟨rfl, e435, Nat.le_of_ble_eq_true rfl, Nat.le_of_ble_eq_true rfl⟩)
    dsimp only [Pt.U, Pt.locs, Pt.cells, Pt.slots] at X437 l437 y437 z437 st437 hQ437
    rw [l437, y437, z437] at X437
    obtain ⟨rfl, rfl, e437⟩ := hQ437
    have X437 : Stand p l e _ s m #[(.int p0)] below meth c T437 [] 0 0 := X437
    refine OGets.step st437 ?_
    show OGets p e below _ (T437.setTop (mkF m 41 #[.val (.int p0), .val (.int (12 : Int32)), .val (.ref (A 12)), .val (.int (0 : Int32)), .val (.int (1 : Int32))] [(.int (0 : Int32)), (.int (0 : Int32))]))
    refine OGets.step (fun _ => XS.icmpNo X437.here hx rfl (hb hby at_41) rfl (teq (by decide : (0 : Int32) = (0 : Int32))).2) ?_
    show OGets p e below _ (T437.setTop (mkF m 44 #[.val (.int p0), .val (.int (12 : Int32)), .val (.ref (A 12)), .val (.int (0 : Int32)), .val (.int (1 : Int32))] []))
    refine OGets.step (fun _ => XS.iload X437.here hx rfl (hb hby at_44) rfl) ?_
    show OGets p e below _ (T437.setTop (mkF m 46 #[.val (.int p0), .val (.int (12 : Int32)), .val (.ref (A 12)), .val (.int (0 : Int32)), .val (.int (1 : Int32))] [(.int (1 : Int32))]))
    refine OGets.step (fun _ => XS.ifNo X437.here hx rfl (hb hby at_46) rfl ((if0 _ _).trans (feq (by decide : ¬ ((1 : Int32) = (0 : Int32)))).1)) ?_
    show OGets p e below _ (T437.setTop (mkF m 49 #[.val (.int p0), .val (.int (12 : Int32)), .val (.ref (A 12)), .val (.int (0 : Int32)), .val (.int (1 : Int32))] []))
    refine OGets.step (fun _ => XS.iconst X437.here hx rfl (hb hby at_49)) ?_
    show OGets p e below _ (T437.setTop (mkF m 50 #[.val (.int p0), .val (.int (12 : Int32)), .val (.ref (A 12)), .val (.int (0 : Int32)), .val (.int (1 : Int32))] [(.int (1 : Int32))]))
    refine OGets.step (fun _ => XS.goto X437.here hx rfl (pc0 := 50) (pc' := 54) rfl (hb hby at_50) (by decide) (by decide)) ?_
    show OGets p e below _ (T437.setTop (mkF m 54 #[.val (.int p0), .val (.int (12 : Int32)), .val (.ref (A 12)), .val (.int (0 : Int32)), .val (.int (1 : Int32))] [(.int (1 : Int32))]))
    refine OGets.retN X437 hx hlk (t := .boolean) Bd.returns (by simp) (hb hby at_54) (Nat.le_of_ble_eq_true rfl) (Nat.le_of_ble_eq_true rfl) ?_
    exact ⟨rfl, N0⟩
set_option maxRecDepth 65536 in
set_option maxHeartbeats 40000000 in
theorem comes_1 {Post : Tables → Env → Array Value → State → Outcome → State → Prop} (hpost : ∀ tb e args s v u, (limb_1_1.after args s (.returned v) u = true ∧ limb_1_2.after args s (.returned v) u = true ∧ True) → FrameEnd s (.returned v) u (Jvm.fieldLocs frame_1_writes args s ++ Jvm.arrayLocs frame_1_arrays args s ++ Jvm.staticLocs frame_1_statics s) 0 0 → Post tb e args s (.returned v) u) :
    ArmFor flags0 classFile x code maxLocals ret World_1 tables_1 room_1 Calls_1 rest_1 Pre_1 Post := by
  intro l hfl _ _ p e ha hc hk s m args below hf hA hF happ hP
  obtain ⟨hcalls, hrest, hpre⟩ := hP
  obtain ⟨-, -, -, hnamed, -, -, -, hat⟩ := (Spec.applies_iff hf).mp happ
  obtain ⟨hg, hn⟩ := and_e (Cond.before_iff.mp (show (Jvm.Cond.and given_1 narrow_1).before args s = true from hpre))
  obtain ⟨hcount, hg0⟩ := and_e hg
  have ga0 := hg0
  obtain ⟨w0, rfl⟩ : ∃ w0 : Value, args = #[w0] := by
    have hs : args.size = 1 := by simpa [Cond.value, given_1] using hcount
    obtain ⟨L⟩ := args
    match L, hs with
    | [w0], _ => exact ⟨w0, rfl⟩
  have hw := fun d (hd : d ∈ tables_1) => atoms_spec (ws := Jvm.Cond.code x code maxLocals ret :: tables_1) hat d (List.mem_cons_of_mem _ hd)
  have hfit : Fit s := fun {y c} hc i hi => by
    obtain ⟨ha, rfl⟩ := Array.getElem?_eq_some_iff.mp hc
    have q := List.all_eq_true.mp ((Array.all_eq_true_iff_forall_mem.mp hF) _ (Array.getElem_mem ha)) i (List.mem_range.mpr hi)
    simpa [Array.getElem?_eq_getElem hi] using q
  obtain ⟨i0, ei0⟩ := is_v ga0
  obtain rfl : w0 = (.int i0) := Option.some.inj ei0
  obtain ⟨ne0, hn0⟩ := and_e hn
  obtain ⟨ne3, hn1⟩ := and_e hn0
  obtain ⟨ne2, hn2⟩ := and_e hn1
  obtain ⟨ne8, hn3⟩ := and_e hn2
  obtain ⟨ne9, hn4⟩ := and_e hn3
  obtain ⟨ne12, hn5⟩ := and_e hn4
  obtain ⟨ne1, hn6⟩ := and_e hn5
  obtain ⟨ne10, hn7⟩ := and_e hn6
  obtain ⟨ne11, hn8⟩ := and_e hn7
  obtain ⟨ne6, hn9⟩ := and_e hn8
  obtain ⟨ne5, hn10⟩ := and_e hn9
  obtain ⟨ne7, hn11⟩ := and_e hn10
  have ne4 := hn11
  obtain ⟨x0, ev0⟩ := exa_v ne0
  have E0 := Exa.start ev0 ne0
  have S0 := Sta.start ev0 (Or.inr ⟨(hw _ (List.mem_of_getElem? (i := 6) rfl)), (hw _ (List.mem_of_getElem? (i := 7) rfl))⟩)
  obtain ⟨x1, ev1⟩ := exa_v ne1
  have E1 := Exa.start ev1 ne1
  have S1 := Sta.start ev1 (Or.inr ⟨(hw _ (List.mem_of_getElem? (i := 6) rfl)), (hw _ (List.mem_of_getElem? (i := 36) rfl))⟩)
  obtain ⟨x2, ev2⟩ := exa_v ne2
  have E2 := Exa.start ev2 ne2
  have S2 := Sta.start ev2 (Or.inr ⟨(hw _ (List.mem_of_getElem? (i := 6) rfl)), (hw _ (List.mem_of_getElem? (i := 16) rfl))⟩)
  obtain ⟨x3, ev3⟩ := exa_v ne3
  have E3 := Exa.start ev3 ne3
  have S3 := Sta.start ev3 (Or.inr ⟨(hw _ (List.mem_of_getElem? (i := 6) rfl)), (hw _ (List.mem_of_getElem? (i := 14) rfl))⟩)
  obtain ⟨x4, ev4⟩ := exa_v ne4
  have E4 := Exa.start ev4 ne4
  have S4 := Sta.start ev4 (Or.inr ⟨(hw _ (List.mem_of_getElem? (i := 6) rfl)), (hw _ (List.mem_of_getElem? (i := 75) rfl))⟩)
  obtain ⟨x5, ev5⟩ := exa_v ne5
  have E5 := Exa.start ev5 ne5
  have S5 := Sta.start ev5 (Or.inr ⟨(hw _ (List.mem_of_getElem? (i := 6) rfl)), (hw _ (List.mem_of_getElem? (i := 46) rfl))⟩)
  obtain ⟨x6, ev6⟩ := exa_v ne6
  have E6 := Exa.start ev6 ne6
  have S6 := Sta.start ev6 (Or.inr ⟨(hw _ (List.mem_of_getElem? (i := 6) rfl)), (hw _ (List.mem_of_getElem? (i := 42) rfl))⟩)
  obtain ⟨x7, ev7⟩ := exa_v ne7
  have E7 := Exa.start ev7 ne7
  have S7 := Sta.start ev7 (Or.inr ⟨(hw _ (List.mem_of_getElem? (i := 6) rfl)), (hw _ (List.mem_of_getElem? (i := 50) rfl))⟩)
  obtain ⟨x8, ev8⟩ := exa_v ne8
  have E8 := Exa.start ev8 ne8
  have S8 := Sta.start ev8 (Or.inr ⟨(hw _ (List.mem_of_getElem? (i := 6) rfl)), (hw _ (List.mem_of_getElem? (i := 18) rfl))⟩)
  obtain ⟨x9, ev9⟩ := exa_v ne9
  have E9 := Exa.start ev9 ne9
  have S9 := Sta.start ev9 (Or.inr ⟨(hw _ (List.mem_of_getElem? (i := 6) rfl)), (hw _ (List.mem_of_getElem? (i := 20) rfl))⟩)
  obtain ⟨x10, ev10⟩ := exa_v ne10
  have E10 := Exa.start ev10 ne10
  have S10 := Sta.start ev10 (Or.inr ⟨(hw _ (List.mem_of_getElem? (i := 6) rfl)), (hw _ (List.mem_of_getElem? (i := 38) rfl))⟩)
  obtain ⟨x11, ev11⟩ := exa_v ne11
  have E11 := Exa.start ev11 ne11
  have S11 := Sta.start ev11 (Or.inr ⟨(hw _ (List.mem_of_getElem? (i := 6) rfl)), (hw _ (List.mem_of_getElem? (i := 40) rfl))⟩)
  obtain ⟨x12, ev12⟩ := exa_v ne12
  have E12 := Exa.start ev12 ne12
  have S12 := Sta.start ev12 (Or.inr ⟨(hw _ (List.mem_of_getElem? (i := 6) rfl)), (hw _ (List.mem_of_getElem? (i := 22) rfl))⟩)
  have hS : ∀ i, i < 13 → Sta s s.heap "com/example/pelt/pelt/Axis" (nmOf i) "Lcom/example/pelt/pelt/Axis;" (.ref (([x0, x1, x2, x3, x4, x5, x6, x7, x8, x9, x10, x11, x12] : List Addr).getD i 0)) := by
    intro i hi
    match i, hi with
    | 0, _ => exact S0
    | 1, _ => exact S1
    | 2, _ => exact S2
    | 3, _ => exact S3
    | 4, _ => exact S4
    | 5, _ => exact S5
    | 6, _ => exact S6
    | 7, _ => exact S7
    | 8, _ => exact S8
    | 9, _ => exact S9
    | 10, _ => exact S10
    | 11, _ => exact S11
    | 12, _ => exact S12
  have hE : ∀ i, i < 13 → Exa s s.heap (([x0, x1, x2, x3, x4, x5, x6, x7, x8, x9, x10, x11, x12] : List Addr).getD i 0) (clOf i) := by
    intro i hi
    match i, hi with
    | 0, _ => exact E0
    | 1, _ => exact E1
    | 2, _ => exact E2
    | 3, _ => exact E3
    | 4, _ => exact E4
    | 5, _ => exact E5
    | 6, _ => exact E6
    | 7, _ => exact E7
    | 8, _ => exact E8
    | 9, _ => exact E9
    | 10, _ => exact E10
    | 11, _ => exact E11
    | 12, _ => exact E12
  have hI : ∀ i j, i < 13 → j < 13 → ([x0, x1, x2, x3, x4, x5, x6, x7, x8, x9, x10, x11, x12] : List Addr).getD i 0 = ([x0, x1, x2, x3, x4, x5, x6, x7, x8, x9, x10, x11, x12] : List Addr).getD j 0 → i = j := by
    intro i j hi hj hij
    by_cases hq : clOf i = clOf j
    · have hcl : ∀ i j : Fin 13, clOf i.1 = clOf j.1 → i.1 = j.1 := by decide
      exact hcl ⟨i, hi⟩ ⟨j, hj⟩ hq
    · exact absurd hij (ne_exa (hE i hi) (hE j hj) hq)
  obtain ⟨n, o, h1, h2, h3, _, L, rfl, ⟨rfl, N⟩, hq⟩ := rm_law l s _ hw tables_1 i0 (fun i => ([x0, x1, x2, x3, x4, x5, x6, x7, x8, x9, x10, x11, x12] : List Addr).getD i 0) s.heap s.heap.size (Nat.le_refl _) hS hI hE  p e ha hc hk s m _ below hf ((Spec.applies_iff_loose hf).mp happ).1 ⟨rfl, State.Warmed39.refl s, rfl⟩ trivial
  refine ⟨n, _, h1, h2, h3, hpost _ _ _ _ _ _ ⟨Cond.after_iff.mpr rfl, Cond.after_iff.mpr (eq_i res_at (Term.int_eval (1)) rfl), trivial⟩ ⟨hq.1, hq.2.1, (hq.2.2.sift fun y hy => Or.inr (N y hy)).mono (by decide) (by decide)⟩⟩
theorem main_1_1 : Claimed_1_1 := comes_1 fun _ _ _ _ _ _ h hF => ⟨h.1, hF⟩
theorem main_1_2 : Claimed_1_2 := comes_1 fun _ _ _ _ _ _ h hF => ⟨h.2.1, hF⟩
end Jvm.Pilot.@@N@@
namespace Jvm.Pilot.@@N@@
open Jvm Jvm.ClassFile Sem Op Lib Jvm.Free Jvm.Stand Jvm.Pilot.@@N@@.Jvm.D
/-! MADE BY PROGRAM (witnessworld.py) out of the Statement's table words and the real class files: 25 classes; the members and pool entries that the words name. The judged class is class 1, her method 3. -/
namespace start1
open Jvm.ClassFile
def u (s : String) : CpInfo := .utf8 (stringToUtf16 s)
/-- a pool by its gaps: so many unusable entries, then the entry; so many at the end -/
def gap : Nat → List CpInfo → List CpInfo
  | 0, r => r
  | n + 1, r => .unusable :: gap n r
def poolList (es : List (Nat × CpInfo)) (last : Nat) : List CpInfo := es.foldr (fun e r => gap e.1 (e.2 :: r)) (gap last [])
def pool (es : List (Nat × CpInfo)) (last : Nat) : Array CpInfo := ⟨poolList es last⟩
def fileOf (pool : Array CpInfo) (this : Nat) (attrs : Array Attribute := #[]) (ms : Array MethodInfo := #[]) (fl : Nat := 33) (sup : Nat := 0) (ifs : Array Nat := #[]) (fds : Array FieldInfo := #[]) : ClassFile where
  minorVersion := 0
  majorVersion := 65
  constantPool := pool
  accessFlags := fl
  thisClass := this
  superClass := sup
  interfaces := ifs
  fields := fds
  methods := ms
  attributes := attrs
def plain (name : String) (sup : Option ClassId) : Class where
  name := name
  kind := .ordinary
  loader := none
  accessFlags := 33
  super := sup
  interfaces := #[]
  cf := none
  fields := #[]
  methods := #[]
  instanceTypes := #[]
  staticTypes := #[]
  resolved := #[]
  callSites := []
  init := .initialized
  statics := none
  mirror := none

def pool0 : Array CpInfo := pool [(5, u "<init>"), (0, u "()V"), (1, .class_ 10), (1, u "java/lang/Object")] 113

def k0m0 : Method := { name := "<init>", desc := "()V", sig := { parameters := [], returnType := none }, accessFlags := 1, code := none }
/-- java/lang/Object -/
def k0 : Class := { plain "java/lang/Object" none with
  accessFlags := 33
  interfaces := #[]
  cf := some (fileOf pool0 8 #[] #[{ accessFlags := 1, nameIndex := 5, descriptorIndex := 6, attributes := #[] }] 33 0 #[] #[])
  fields := #[]
  methods := #[k0m0]
  instanceTypes := #[]
  staticTypes := #[]
  resolved := Array.replicate 124 none
  statics := none }

def pool1 : Array CpInfo := pool [(2, .class_ 4), (1, u "java/lang/Object"), (0, u "<init>"), (0, u "()V"), (0, .fieldref 8 9), (0, .class_ 10), (0, .nameAndType 11 12), (0, u "com/example/pelt/pelt/Axis"), (0, u "ANCESTOR"), (0, u "Lcom/example/pelt/pelt/Axis;"), (0, .fieldref 8 14), (0, .nameAndType 15 12), (0, u "ANCESTOR_OR_SELF"), (0, .fieldref 8 17), (0, .nameAndType 18 12), (0, u "ATTRIBUTE"), (0, .fieldref 8 20), (0, .nameAndType 21 12), (0, u "CHILD"), (0, .fieldref 8 23), (0, .nameAndType 24 12), (0, u "DESCENDANT"), (0, .fieldref 8 26), (0, .nameAndType 27 12), (0, u "DESCENDANT_OR_SELF"), (0, .fieldref 8 29), (0, .nameAndType 30 12), (0, u "FOLLOWING"), (0, .fieldref 8 32), (0, .nameAndType 33 12), (0, u "FOLLOWING_SIBLING"), (0, .fieldref 8 35), (0, .nameAndType 36 12), (0, u "NAMESPACE"), (0, .fieldref 8 38), (0, .nameAndType 39 12), (0, u "PARENT"), (0, .fieldref 8 41), (0, .nameAndType 42 12), (0, u "PRECEDING"), (0, .fieldref 8 44), (0, .nameAndType 45 12), (0, u "PRECEDING_SIBLING"), (0, .fieldref 8 47), (0, .nameAndType 48 12), (0, u "SELF"), (0, .integer 2147483647), (0, .methodref 51 52), (0, .class_ 53), (0, .nameAndType 54 55), (0, u "com/example/pelt/pelt/AxisListsOverlapPinLaw"), (0, u "pick"), (0, u "(I)Lcom/example/pelt/pelt/Axis;"), (0, .methodref 8 57), (0, .nameAndType 58 59), (0, u "listsOverlap"), (0, u "()Z"), (0, .methodref 8 61), (0, .nameAndType 62 59), (0, u "isReverse"), (0, .methodref 51 64), (0, .nameAndType 65 66), (0, u "expected"), (0, u "(I)Z"), (3, u "law")] 2

def k1m0 : Method := { name := "<init>", desc := "()V", sig := { parameters := [], returnType := none }, accessFlags := 1, code := none }
def k1c1 : Code := { maxStack := 2, maxLocals := 1, code := method_2_code, exceptionTable := #[], attributes := #[] }
def k1m1 : Method := { name := "pick", desc := "(I)Lcom/example/pelt/pelt/Axis;", sig := { parameters := [.int], returnType := some (.object "com/example/pelt/pelt/Axis") }, accessFlags := 10, code := some k1c1 }
def k1c2 : Code := { maxStack := 2, maxLocals := 5, code := method_3_code, exceptionTable := #[], attributes := #[] }
def k1m2 : Method := { name := "expected", desc := "(I)Z", sig := { parameters := [.int], returnType := some .boolean }, accessFlags := 10, code := some k1c2 }
def k1c3 : Code := { maxStack := 2, maxLocals := 5, code := code, exceptionTable := #[], attributes := #[] }
def k1m3 : Method := { name := "law", desc := "(I)Z", sig := { parameters := [.int], returnType := some .boolean }, accessFlags := 9, code := some k1c3 }
/-- com/example/pelt/pelt/AxisListsOverlapPinLaw -/
def k1 : Class := { plain "com/example/pelt/pelt/AxisListsOverlapPinLaw" (some 0) with
  accessFlags := 49
  interfaces := #[]
  cf := some (fileOf pool1 51 #[] #[{ accessFlags := 1, nameIndex := 5, descriptorIndex := 6, attributes := #[] }, { accessFlags := 10, nameIndex := 54, descriptorIndex := 55, attributes := #[] }, { accessFlags := 10, nameIndex := 65, descriptorIndex := 66, attributes := #[] }, { accessFlags := 9, nameIndex := 70, descriptorIndex := 66, attributes := #[] }] 49 2 #[] #[])
  fields := #[]
  methods := #[k1m0, k1m1, k1m2, k1m3]
  instanceTypes := #[]
  staticTypes := #[]
  resolved := Array.replicate 73 none
  statics := none }

def pool2 : Array CpInfo := pool [(1, .class_ 2), (0, u "java/lang/constant/Constable"), (0, .class_ 4), (0, u "java/lang/Object")] 6

/-- java/lang/constant/Constable -/
def k2 : Class := { plain "java/lang/constant/Constable" (some 0) with
  accessFlags := 1537
  interfaces := #[]
  cf := some (fileOf pool2 1 #[] #[] 1537 3 #[] #[])
  fields := #[]
  methods := #[]
  instanceTypes := #[]
  staticTypes := #[]
  resolved := Array.replicate 11 none
  statics := none }

def pool3 : Array CpInfo := pool [(1, .class_ 2), (0, u "java/lang/Comparable"), (0, .class_ 4), (0, u "java/lang/Object")] 7

/-- java/lang/Comparable -/
def k3 : Class := { plain "java/lang/Comparable" (some 0) with
  accessFlags := 1537
  interfaces := #[]
  cf := some (fileOf pool3 1 #[] #[] 1537 3 #[] #[])
  fields := #[]
  methods := #[]
  instanceTypes := #[]
  staticTypes := #[]
  resolved := Array.replicate 12 none
  statics := none }

def pool4 : Array CpInfo := pool [(1, .class_ 2), (0, u "java/io/Serializable"), (0, .class_ 4), (0, u "java/lang/Object")] 2

/-- java/io/Serializable -/
def k4 : Class := { plain "java/io/Serializable" (some 0) with
  accessFlags := 1537
  interfaces := #[]
  cf := some (fileOf pool4 1 #[] #[] 1537 3 #[] #[])
  fields := #[]
  methods := #[]
  instanceTypes := #[]
  staticTypes := #[]
  resolved := Array.replicate 7 none
  statics := none }

def pool5 : Array CpInfo := pool [(2, .class_ 4), (1, u "java/lang/Enum"), (0, u "name"), (0, u "Ljava/lang/String;"), (2, u "ordinal"), (0, u "I"), (1, .class_ 14), (1, u "java/lang/Object"), (4, u "hash"), (86, .class_ 108), (1, u "java/lang/Enum$EnumDesc"), (2, .class_ 112), (0, u "java/lang/constant/Constable"), (0, .class_ 114), (0, u "java/lang/Comparable"), (0, .class_ 116), (0, u "java/io/Serializable")] 87

/-- java/lang/Enum -/
def k5 : Class := { plain "java/lang/Enum" (some 0) with
  accessFlags := 1057
  interfaces := #[2, 3, 4]
  cf := some (fileOf pool5 2 #[.nestMembers #[106]] #[] 1057 12 #[111, 113, 115] #[{ accessFlags := 18, nameIndex := 5, descriptorIndex := 6, attributes := #[] }, { accessFlags := 18, nameIndex := 9, descriptorIndex := 10, attributes := #[] }, { accessFlags := 2, nameIndex := 19, descriptorIndex := 10, attributes := #[] }])
  fields := #[{ name := "name", type := (.object "java/lang/String"), accessFlags := 18, slot := 0, constantValue := 0 }, { name := "ordinal", type := .int, accessFlags := 18, slot := 1, constantValue := 0 }, { name := "hash", type := .int, accessFlags := 2, slot := 2, constantValue := 0 }]
  methods := #[]
  instanceTypes := #[(.object "java/lang/String"), .int, .int]
  staticTypes := #[]
  resolved := Array.replicate 204 none
  statics := none }

def pool6 : Array CpInfo := pool [(1, .class_ 2), (0, u "com/example/pelt/pelt/Axis"), (0, .fieldref 1 4), (0, .nameAndType 5 6), (0, u "ANCESTOR"), (0, u "Lcom/example/pelt/pelt/Axis;"), (0, .fieldref 1 8), (0, .nameAndType 9 6), (0, u "ANCESTOR_OR_SELF"), (0, .fieldref 1 11), (0, .nameAndType 12 6), (0, u "ATTRIBUTE"), (0, .fieldref 1 14), (0, .nameAndType 15 6), (0, u "CHILD"), (2, u "DESCENDANT"), (2, u "DESCENDANT_OR_SELF"), (2, u "FOLLOWING"), (2, u "FOLLOWING_SIBLING"), (0, .fieldref 1 29), (0, .nameAndType 30 6), (0, u "NAMESPACE"), (0, .fieldref 1 32), (0, .nameAndType 33 6), (0, u "PARENT"), (0, .fieldref 1 35), (0, .nameAndType 36 6), (0, u "PRECEDING"), (0, .fieldref 1 38), (0, .nameAndType 39 6), (0, u "PRECEDING_SIBLING"), (0, .fieldref 1 41), (0, .nameAndType 42 6), (0, u "SELF"), (2, u "$VALUES"), (0, u "[Lcom/example/pelt/pelt/Axis;"), (6, .class_ 55), (1, u "java/lang/Enum"), (8, u "axisName"), (0, u "Ljava/lang/String;"), (2, u "principalKind"), (0, u "Lcom/example/pelt/pelt/NodeKind;"), (118, .class_ 189), (0, u "com/example/pelt/pelt/Axis$1"), (9, .class_ 200), (0, u "com/example/pelt/pelt/Axis$2"), (4, .class_ 206), (0, u "com/example/pelt/pelt/Axis$3"), (6, .class_ 214), (0, u "com/example/pelt/pelt/Axis$4"), (4, .class_ 220), (0, u "com/example/pelt/pelt/Axis$5"), (4, .class_ 226), (0, u "com/example/pelt/pelt/Axis$6"), (4, .class_ 232), (0, u "com/example/pelt/pelt/Axis$7"), (4, .class_ 238), (0, u "com/example/pelt/pelt/Axis$8"), (4, .class_ 244), (0, u "com/example/pelt/pelt/Axis$9"), (4, .class_ 250), (0, u "com/example/pelt/pelt/Axis$10"), (3, .class_ 255), (0, u "com/example/pelt/pelt/Axis$11"), (4, .class_ 261), (0, u "com/example/pelt/pelt/Axis$12"), (4, .class_ 267), (0, u "com/example/pelt/pelt/Axis$13"), (7, u "SPARSE"), (0, u "I"), (11, u "isReverse"), (0, u "()Z"), (5, u "listsOverlap")] 40

def k6c0 : Code := { maxStack := 2, maxLocals := 1, code := prog_3_method_6_code, exceptionTable := #[], attributes := #[] }
def k6m0 : Method := { name := "isReverse", desc := "()Z", sig := { parameters := [], returnType := some .boolean }, accessFlags := 0, code := some k6c0 }
def k6c1 : Code := { maxStack := 2, maxLocals := 1, code := prog_3_method_15_code, exceptionTable := #[], attributes := #[] }
def k6m1 : Method := { name := "listsOverlap", desc := "()Z", sig := { parameters := [], returnType := some .boolean }, accessFlags := 0, code := some k6c1 }
/-- com/example/pelt/pelt/Axis -/
def k6 : Class := { plain "com/example/pelt/pelt/Axis" (some 5) with
  accessFlags := 17440
  interfaces := #[]
  cf := some (fileOf pool6 1 #[.nestMembers #[266, 260, 254, 249, 243, 237, 231, 225, 219, 213, 205, 199, 188]] #[{ accessFlags := 0, nameIndex := 288, descriptorIndex := 289, attributes := #[] }, { accessFlags := 0, nameIndex := 295, descriptorIndex := 289, attributes := #[] }] 17440 53 #[] #[{ accessFlags := 16409, nameIndex := 5, descriptorIndex := 6, attributes := #[] }, { accessFlags := 16409, nameIndex := 9, descriptorIndex := 6, attributes := #[] }, { accessFlags := 16409, nameIndex := 12, descriptorIndex := 6, attributes := #[] }, { accessFlags := 16409, nameIndex := 15, descriptorIndex := 6, attributes := #[] }, { accessFlags := 16409, nameIndex := 18, descriptorIndex := 6, attributes := #[] }, { accessFlags := 16409, nameIndex := 21, descriptorIndex := 6, attributes := #[] }, { accessFlags := 16409, nameIndex := 24, descriptorIndex := 6, attributes := #[] }, { accessFlags := 16409, nameIndex := 27, descriptorIndex := 6, attributes := #[] }, { accessFlags := 16409, nameIndex := 30, descriptorIndex := 6, attributes := #[] }, { accessFlags := 16409, nameIndex := 33, descriptorIndex := 6, attributes := #[] }, { accessFlags := 16409, nameIndex := 36, descriptorIndex := 6, attributes := #[] }, { accessFlags := 16409, nameIndex := 39, descriptorIndex := 6, attributes := #[] }, { accessFlags := 16409, nameIndex := 42, descriptorIndex := 6, attributes := #[] }, { accessFlags := 26, nameIndex := 275, descriptorIndex := 276, attributes := #[] }, { accessFlags := 18, nameIndex := 64, descriptorIndex := 65, attributes := #[] }, { accessFlags := 18, nameIndex := 68, descriptorIndex := 69, attributes := #[] }, { accessFlags := 4122, nameIndex := 45, descriptorIndex := 46, attributes := #[] }])
  fields := #[{ name := "ANCESTOR", type := (.object "com/example/pelt/pelt/Axis"), accessFlags := 16409, slot := 0, constantValue := 0 }, { name := "ANCESTOR_OR_SELF", type := (.object "com/example/pelt/pelt/Axis"), accessFlags := 16409, slot := 1, constantValue := 0 }, { name := "ATTRIBUTE", type := (.object "com/example/pelt/pelt/Axis"), accessFlags := 16409, slot := 2, constantValue := 0 }, { name := "CHILD", type := (.object "com/example/pelt/pelt/Axis"), accessFlags := 16409, slot := 3, constantValue := 0 }, { name := "DESCENDANT", type := (.object "com/example/pelt/pelt/Axis"), accessFlags := 16409, slot := 4, constantValue := 0 }, { name := "DESCENDANT_OR_SELF", type := (.object "com/example/pelt/pelt/Axis"), accessFlags := 16409, slot := 5, constantValue := 0 }, { name := "FOLLOWING", type := (.object "com/example/pelt/pelt/Axis"), accessFlags := 16409, slot := 6, constantValue := 0 }, { name := "FOLLOWING_SIBLING", type := (.object "com/example/pelt/pelt/Axis"), accessFlags := 16409, slot := 7, constantValue := 0 }, { name := "NAMESPACE", type := (.object "com/example/pelt/pelt/Axis"), accessFlags := 16409, slot := 8, constantValue := 0 }, { name := "PARENT", type := (.object "com/example/pelt/pelt/Axis"), accessFlags := 16409, slot := 9, constantValue := 0 }, { name := "PRECEDING", type := (.object "com/example/pelt/pelt/Axis"), accessFlags := 16409, slot := 10, constantValue := 0 }, { name := "PRECEDING_SIBLING", type := (.object "com/example/pelt/pelt/Axis"), accessFlags := 16409, slot := 11, constantValue := 0 }, { name := "SELF", type := (.object "com/example/pelt/pelt/Axis"), accessFlags := 16409, slot := 12, constantValue := 0 }, { name := "SPARSE", type := .int, accessFlags := 26, slot := 13, constantValue := 0 }, { name := "axisName", type := (.object "java/lang/String"), accessFlags := 18, slot := 3, constantValue := 0 }, { name := "principalKind", type := (.object "com/example/pelt/pelt/NodeKind"), accessFlags := 18, slot := 4, constantValue := 0 }, { name := "$VALUES", type := (.array (.object "com/example/pelt/pelt/Axis")), accessFlags := 4122, slot := 14, constantValue := 0 }]
  methods := #[k6m0, k6m1]
  instanceTypes := #[(.object "java/lang/String"), .int, .int, (.object "java/lang/String"), (.object "com/example/pelt/pelt/NodeKind")]
  staticTypes := #[(.object "com/example/pelt/pelt/Axis"), (.object "com/example/pelt/pelt/Axis"), (.object "com/example/pelt/pelt/Axis"), (.object "com/example/pelt/pelt/Axis"), (.object "com/example/pelt/pelt/Axis"), (.object "com/example/pelt/pelt/Axis"), (.object "com/example/pelt/pelt/Axis"), (.object "com/example/pelt/pelt/Axis"), (.object "com/example/pelt/pelt/Axis"), (.object "com/example/pelt/pelt/Axis"), (.object "com/example/pelt/pelt/Axis"), (.object "com/example/pelt/pelt/Axis"), (.object "com/example/pelt/pelt/Axis"), .int, (.array (.object "com/example/pelt/pelt/Axis"))]
  resolved := Array.replicate 336 none
  statics := some 0 }

def pool7 : Array CpInfo := pool [(2, .class_ 4), (1, u "com/example/pelt/pelt/Axis"), (35, .class_ 42), (1, u "com/example/pelt/pelt/Axis$1")] 96

/-- com/example/pelt/pelt/Axis$1 -/
def k7 : Class := { plain "com/example/pelt/pelt/Axis$1" (some 6) with
  accessFlags := 16432
  interfaces := #[]
  cf := some (fileOf pool7 40 #[.nestHost 2] #[] 16432 2 #[] #[])
  fields := #[]
  methods := #[]
  instanceTypes := #[(.object "java/lang/String"), .int, .int, (.object "java/lang/String"), (.object "com/example/pelt/pelt/NodeKind")]
  staticTypes := #[]
  resolved := Array.replicate 139 none
  statics := none }

def pool8 : Array CpInfo := pool [(2, .class_ 4), (1, u "com/example/pelt/pelt/Axis"), (30, .class_ 37), (1, u "com/example/pelt/pelt/Axis$4")] 74

/-- com/example/pelt/pelt/Axis$4 -/
def k8 : Class := { plain "com/example/pelt/pelt/Axis$4" (some 6) with
  accessFlags := 16432
  interfaces := #[]
  cf := some (fileOf pool8 35 #[.nestHost 2] #[] 16432 2 #[] #[])
  fields := #[]
  methods := #[]
  instanceTypes := #[(.object "java/lang/String"), .int, .int, (.object "java/lang/String"), (.object "com/example/pelt/pelt/NodeKind")]
  staticTypes := #[]
  resolved := Array.replicate 112 none
  statics := none }

def pool9 : Array CpInfo := pool [(2, .class_ 4), (1, u "com/example/pelt/pelt/Axis"), (73, .class_ 79), (0, u "com/example/pelt/pelt/Axis$7")] 21

/-- com/example/pelt/pelt/Axis$7 -/
def k9 : Class := { plain "com/example/pelt/pelt/Axis$7" (some 6) with
  accessFlags := 16432
  interfaces := #[]
  cf := some (fileOf pool9 78 #[.nestHost 2] #[] 16432 2 #[] #[])
  fields := #[]
  methods := #[]
  instanceTypes := #[(.object "java/lang/String"), .int, .int, (.object "java/lang/String"), (.object "com/example/pelt/pelt/NodeKind")]
  staticTypes := #[]
  resolved := Array.replicate 101 none
  statics := none }

def pool10 : Array CpInfo := pool [(2, .class_ 4), (1, u "com/example/pelt/pelt/Axis"), (3, .class_ 10), (1, u "com/example/pelt/pelt/Axis$6")] 66

/-- com/example/pelt/pelt/Axis$6 -/
def k10 : Class := { plain "com/example/pelt/pelt/Axis$6" (some 6) with
  accessFlags := 16432
  interfaces := #[]
  cf := some (fileOf pool10 8 #[.nestHost 2] #[] 16432 2 #[] #[])
  fields := #[]
  methods := #[]
  instanceTypes := #[(.object "java/lang/String"), .int, .int, (.object "java/lang/String"), (.object "com/example/pelt/pelt/NodeKind")]
  staticTypes := #[]
  resolved := Array.replicate 77 none
  statics := none }

def pool11 : Array CpInfo := pool [(2, .class_ 4), (1, u "com/example/pelt/pelt/Axis"), (41, .class_ 48), (1, u "com/example/pelt/pelt/Axis$8")] 46

/-- com/example/pelt/pelt/Axis$8 -/
def k11 : Class := { plain "com/example/pelt/pelt/Axis$8" (some 6) with
  accessFlags := 16432
  interfaces := #[]
  cf := some (fileOf pool11 46 #[.nestHost 2] #[] 16432 2 #[] #[])
  fields := #[]
  methods := #[]
  instanceTypes := #[(.object "java/lang/String"), .int, .int, (.object "java/lang/String"), (.object "com/example/pelt/pelt/NodeKind")]
  staticTypes := #[]
  resolved := Array.replicate 95 none
  statics := none }

def pool12 : Array CpInfo := pool [(2, .class_ 4), (1, u "com/example/pelt/pelt/Axis"), (62, .class_ 68), (0, u "com/example/pelt/pelt/Axis$10")] 18

/-- com/example/pelt/pelt/Axis$10 -/
def k12 : Class := { plain "com/example/pelt/pelt/Axis$10" (some 6) with
  accessFlags := 16432
  interfaces := #[]
  cf := some (fileOf pool12 67 #[.nestHost 2] #[] 16432 2 #[] #[])
  fields := #[]
  methods := #[]
  instanceTypes := #[(.object "java/lang/String"), .int, .int, (.object "java/lang/String"), (.object "com/example/pelt/pelt/NodeKind")]
  staticTypes := #[]
  resolved := Array.replicate 87 none
  statics := none }

def pool13 : Array CpInfo := pool [(2, .class_ 4), (1, u "com/example/pelt/pelt/Axis"), (59, .class_ 65), (0, u "com/example/pelt/pelt/Axis$3")] 20

/-- com/example/pelt/pelt/Axis$3 -/
def k13 : Class := { plain "com/example/pelt/pelt/Axis$3" (some 6) with
  accessFlags := 16432
  interfaces := #[]
  cf := some (fileOf pool13 64 #[.nestHost 2] #[] 16432 2 #[] #[])
  fields := #[]
  methods := #[]
  instanceTypes := #[(.object "java/lang/String"), .int, .int, (.object "java/lang/String"), (.object "com/example/pelt/pelt/NodeKind")]
  staticTypes := #[]
  resolved := Array.replicate 86 none
  statics := none }

def pool14 : Array CpInfo := pool [(2, .class_ 4), (1, u "com/example/pelt/pelt/Axis"), (44, .class_ 51), (1, u "com/example/pelt/pelt/Axis$12")] 52

/-- com/example/pelt/pelt/Axis$12 -/
def k14 : Class := { plain "com/example/pelt/pelt/Axis$12" (some 6) with
  accessFlags := 16432
  interfaces := #[]
  cf := some (fileOf pool14 49 #[.nestHost 2] #[] 16432 2 #[] #[])
  fields := #[]
  methods := #[]
  instanceTypes := #[(.object "java/lang/String"), .int, .int, (.object "java/lang/String"), (.object "com/example/pelt/pelt/NodeKind")]
  staticTypes := #[]
  resolved := Array.replicate 104 none
  statics := none }

def pool15 : Array CpInfo := pool [(2, .class_ 4), (1, u "com/example/pelt/pelt/Axis"), (3, .class_ 10), (1, u "com/example/pelt/pelt/Axis$2")] 62

/-- com/example/pelt/pelt/Axis$2 -/
def k15 : Class := { plain "com/example/pelt/pelt/Axis$2" (some 6) with
  accessFlags := 16432
  interfaces := #[]
  cf := some (fileOf pool15 8 #[.nestHost 2] #[] 16432 2 #[] #[])
  fields := #[]
  methods := #[]
  instanceTypes := #[(.object "java/lang/String"), .int, .int, (.object "java/lang/String"), (.object "com/example/pelt/pelt/NodeKind")]
  staticTypes := #[]
  resolved := Array.replicate 73 none
  statics := none }

def pool16 : Array CpInfo := pool [(2, .class_ 4), (1, u "com/example/pelt/pelt/Axis"), (56, .class_ 62), (0, u "com/example/pelt/pelt/Axis$9")] 16

/-- com/example/pelt/pelt/Axis$9 -/
def k16 : Class := { plain "com/example/pelt/pelt/Axis$9" (some 6) with
  accessFlags := 16432
  interfaces := #[]
  cf := some (fileOf pool16 61 #[.nestHost 2] #[] 16432 2 #[] #[])
  fields := #[]
  methods := #[]
  instanceTypes := #[(.object "java/lang/String"), .int, .int, (.object "java/lang/String"), (.object "com/example/pelt/pelt/NodeKind")]
  staticTypes := #[]
  resolved := Array.replicate 79 none
  statics := none }

def pool17 : Array CpInfo := pool [(2, .class_ 4), (1, u "com/example/pelt/pelt/Axis"), (79, .class_ 85), (0, u "com/example/pelt/pelt/Axis$11")] 21

/-- com/example/pelt/pelt/Axis$11 -/
def k17 : Class := { plain "com/example/pelt/pelt/Axis$11" (some 6) with
  accessFlags := 16432
  interfaces := #[]
  cf := some (fileOf pool17 84 #[.nestHost 2] #[] 16432 2 #[] #[])
  fields := #[]
  methods := #[]
  instanceTypes := #[(.object "java/lang/String"), .int, .int, (.object "java/lang/String"), (.object "com/example/pelt/pelt/NodeKind")]
  staticTypes := #[]
  resolved := Array.replicate 107 none
  statics := none }

def pool18 : Array CpInfo := pool [(2, .class_ 4), (1, u "com/example/pelt/pelt/Axis"), (18, .class_ 24), (0, u "com/example/pelt/pelt/Axis$13")] 15

/-- com/example/pelt/pelt/Axis$13 -/
def k18 : Class := { plain "com/example/pelt/pelt/Axis$13" (some 6) with
  accessFlags := 16432
  interfaces := #[]
  cf := some (fileOf pool18 23 #[.nestHost 2] #[] 16432 2 #[] #[])
  fields := #[]
  methods := #[]
  instanceTypes := #[(.object "java/lang/String"), .int, .int, (.object "java/lang/String"), (.object "com/example/pelt/pelt/NodeKind")]
  staticTypes := #[]
  resolved := Array.replicate 40 none
  statics := none }

def pool19 : Array CpInfo := pool [(2, .class_ 4), (1, u "com/example/pelt/pelt/Axis"), (51, .class_ 58), (1, u "com/example/pelt/pelt/Axis$5")] 58

/-- com/example/pelt/pelt/Axis$5 -/
def k19 : Class := { plain "com/example/pelt/pelt/Axis$5" (some 6) with
  accessFlags := 16432
  interfaces := #[]
  cf := some (fileOf pool19 56 #[.nestHost 2] #[] 16432 2 #[] #[])
  fields := #[]
  methods := #[]
  instanceTypes := #[(.object "java/lang/String"), .int, .int, (.object "java/lang/String"), (.object "com/example/pelt/pelt/NodeKind")]
  staticTypes := #[]
  resolved := Array.replicate 117 none
  statics := none }

def pool20 : Array CpInfo := pool [(1, u "java/lang/Cloneable"), (0, .class_ 1), (0, u "java/lang/Object"), (0, .class_ 3)] 3

/-- java/lang/Cloneable -/
def k20 : Class := { plain "java/lang/Cloneable" (some 0) with
  accessFlags := 1537
  interfaces := #[]
  cf := some (fileOf pool20 2 #[] #[] 1537 4 #[] #[])
  fields := #[]
  methods := #[]
  instanceTypes := #[]
  staticTypes := #[]
  resolved := Array.replicate 8 none
  statics := none }

/-- the primitive byte -/
def k21 : Class := { plain "byte" none with kind := .primitive 'B', accessFlags := 0x411 }
/-- [B -/
def k22 : Class := { plain "[B" (some 0) with kind := .array 21 .byte, interfaces := #[20, 4], accessFlags := 1041 }

/-- the primitive int -/
def k23 : Class := { plain "int" none with kind := .primitive 'I', accessFlags := 0x411 }
/-- [I -/
def k24 : Class := { plain "[I" (some 0) with kind := .array 23 .int, interfaces := #[20, 4], accessFlags := 1041 }

def heap : Heap := #[{ cls := 6, slots := #[.ref 1, .ref 7, .ref 3, .ref 2, .ref 13, .ref 11, .ref 10, .ref 12, .ref 4, .ref 5, .ref 8, .ref 9, .ref 6, .int 0, .null], vm := .statics 6 },
  { cls := 7, slots := #[.null, .int 0, .int 0, .null, .null], vm := .none },
  { cls := 8, slots := #[.null, .int 1, .int 1, .null, .null], vm := .none },
  { cls := 13, slots := #[.null, .int 2, .int 2, .null, .null], vm := .none },
  { cls := 16, slots := #[.null, .int 3, .int 3, .null, .null], vm := .none },
  { cls := 12, slots := #[.null, .int 4, .int 4, .null, .null], vm := .none },
  { cls := 18, slots := #[.null, .int 5, .int 5, .null, .null], vm := .none },
  { cls := 15, slots := #[.null, .int 6, .int 6, .null, .null], vm := .none },
  { cls := 17, slots := #[.null, .int 7, .int 7, .null, .null], vm := .none },
  { cls := 14, slots := #[.null, .int 8, .int 8, .null, .null], vm := .none },
  { cls := 9, slots := #[.null, .int 9, .int 9, .null, .null], vm := .none },
  { cls := 10, slots := #[.null, .int 10, .int 10, .null, .null], vm := .none },
  { cls := 11, slots := #[.null, .int 11, .int 11, .null, .null], vm := .none },
  { cls := 19, slots := #[.null, .int 12, .int 12, .null, .null], vm := .none }]
def classes : Array Class := #[k0, k1, k2, k3, k4, k5, k6, k7, k8, k9, k10, k11, k12, k13, k14, k15, k16, k17, k18, k19, k20, k21, k22, k23, k24]
def interned : List (Array UInt16 × Addr) := []
def slotsUsed : Nat := 80
def theMethod : MethodId := ⟨1, 3⟩
def args0 : Array Value := #[.int 5]
def aboutOver (below : List Frame) : State where
  vm := { classes := classes, interned := interned.toArray }
  heap := heap
  slotsUsed := slotsUsed
  threads := #[{ frames := .invoking theMethod args0 :: below }]
def below0 : List Frame := [.native { method := ⟨0, 0⟩, args := #[] }]
def about1 : State := aboutOver below0
def p0 : Program := .bare "" "" ""
def e0 : Env := launch0.env 0 0 0
theorem w_frames : about1.frames = Frame.invoking theMethod args0 :: below0 := rfl
set_option maxRecDepth 65536 in
theorem w_args : argsFit about1.vm theMethod args0 = true := by decide +kernel
set_option maxRecDepth 65536 in
theorem w_heap : heapFits about1 = true := by decide +kernel
set_option maxRecDepth 65536 in
theorem w_runnable : about1.curStatus? = some .runnable := by decide +kernel
set_option maxRecDepth 65536 in
theorem w_alone : about1.alone = true := by decide +kernel
set_option maxRecDepth 65536 in
theorem w_named : about1.methodNamed? x = some theMethod := by decide +kernel
set_option maxRecDepth 65536 in
theorem w_hears : about1.hears theMethod below0 = true := by decide +kernel
set_option maxRecDepth 65536 in
theorem w_ripe : about1.ripe theMethod args0 below0 = true := by decide +kernel
theorem w_running : about1.status = .running := rfl
set_option maxRecDepth 65536 in
theorem w_room : about1.hasRoom e0.platform room_1 = true :=
  launch0.hasRoom_least _ room_1 (by decide +kernel) (by decide +kernel) (by decide +kernel) (by decide +kernel) (by decide +kernel) (by decide +kernel)
theorem allAtoms_all (ts : List Jvm.Cond) (a : Array Jvm.Value) (st : Jvm.State) : (allAtoms ts).before a st = ts.all (fun c => c.before a st) := by
  induction ts with
  | nil => rfl
  | cons c t ih =>
    show (Jvm.Cond.and c (allAtoms t)).before a st = _
    rw [Jvm.Cond.before_and, ih, List.all_cons]
def words1 : List Jvm.Cond := Jvm.Cond.code x code maxLocals ret :: tables_1
/-- a 'code' word, met by the world's own term for the bytes: nothing is compared byte by byte -/
theorem code_word {y : MethodName} {bytes : ByteArray} {mx : Nat} {rt : Option FieldType} {a : Array Value} {s : State} {m : MethodId} {meth : Method} {c : Code} (h1 : s.methodNamed? y = some m) (h2 : s.vm.method? m = some meth) (h3 : meth.code = some c) (h4 : c.code = bytes)
    (h5 : (c.maxLocals == mx && c.exceptionTable.isEmpty && decide (c.maxStack ≤ mostOperands) && decide (meth.sig.returnType = rt) && !meth.locks && decide (parseMethodDescriptor y.desc = some meth.sig)) = true) : (Jvm.Cond.code y bytes mx rt).before a s = true := by
  simp only [Bool.and_eq_true, beq_iff_eq, Bool.not_eq_true', decide_eq_true_eq] at h5
  obtain ⟨⟨⟨⟨⟨g1, g2⟩, g3⟩, g4⟩, g5⟩, g6⟩ := h5
  simp [Cond.before, Cond.holds, Cond.value, h1, h2, h3, h4, g1, g2, g3, g4, g5, g6]
def isCode : Jvm.Cond → Bool
  | .code _ _ _ _ => true
  | _ => false
theorem all_split {L : List Jvm.Cond} {P : Jvm.Cond → Bool} (h1 : L.all (fun c => isCode c || P c) = true) (h2 : ∀ c ∈ L.filter isCode, P c = true) : L.all P = true := by
  refine List.all_eq_true.mpr fun c hc => ?_
  have h := List.all_eq_true.mp h1 c hc
  rcases Bool.eq_false_or_eq_true (isCode c) with hi | hi
  · exact h2 c (List.mem_filter.mpr ⟨hc, hi⟩)
  · simpa [hi] using h
set_option maxRecDepth 65536 in
theorem w_c0 : (Jvm.Cond.code x code maxLocals ret).before args0 about1 = true := code_word (m := ⟨1, 3⟩) (meth := k1m3) (c := k1c3) (by decide +kernel) rfl rfl rfl (by decide +kernel)
set_option maxRecDepth 65536 in
theorem w_c1 : (Jvm.Cond.code ({ cls := "com/example/pelt/pelt/AxisListsOverlapPinLaw", name := "pick", desc := "(I)Lcom/example/pelt/pelt/Axis;" } : Jvm.MethodName) method_2_code (1 : Nat) (Option.some (Jvm.ClassFile.FieldType.object "com/example/pelt/pelt/Axis"))).before args0 about1 = true := code_word (m := ⟨1, 1⟩) (meth := k1m1) (c := k1c1) (by decide +kernel) rfl rfl rfl (by decide +kernel)
set_option maxRecDepth 65536 in
theorem w_c2 : (Jvm.Cond.code ({ cls := "com/example/pelt/pelt/Axis", name := "listsOverlap", desc := "()Z" } : Jvm.MethodName) prog_3_method_15_code (1 : Nat) (Option.some Jvm.ClassFile.FieldType.boolean)).before args0 about1 = true := code_word (m := ⟨6, 1⟩) (meth := k6m1) (c := k6c1) (by decide +kernel) rfl rfl rfl (by decide +kernel)
set_option maxRecDepth 65536 in
theorem w_c3 : (Jvm.Cond.code ({ cls := "com/example/pelt/pelt/Axis", name := "isReverse", desc := "()Z" } : Jvm.MethodName) prog_3_method_6_code (1 : Nat) (Option.some Jvm.ClassFile.FieldType.boolean)).before args0 about1 = true := code_word (m := ⟨6, 0⟩) (meth := k6m0) (c := k6c0) (by decide +kernel) rfl rfl rfl (by decide +kernel)
set_option maxRecDepth 65536 in
theorem w_c4 : (Jvm.Cond.code ({ cls := "com/example/pelt/pelt/AxisListsOverlapPinLaw", name := "expected", desc := "(I)Z" } : Jvm.MethodName) method_3_code (5 : Nat) (Option.some Jvm.ClassFile.FieldType.boolean)).before args0 about1 = true := code_word (m := ⟨1, 2⟩) (meth := k1m2) (c := k1c2) (by decide +kernel) rfl rfl rfl (by decide +kernel)
def codes1 : List Jvm.Cond := [Jvm.Cond.code x code maxLocals ret, Jvm.Cond.code ({ cls := "com/example/pelt/pelt/AxisListsOverlapPinLaw", name := "pick", desc := "(I)Lcom/example/pelt/pelt/Axis;" } : Jvm.MethodName) method_2_code (1 : Nat) (Option.some (Jvm.ClassFile.FieldType.object "com/example/pelt/pelt/Axis")), Jvm.Cond.code ({ cls := "com/example/pelt/pelt/Axis", name := "listsOverlap", desc := "()Z" } : Jvm.MethodName) prog_3_method_15_code (1 : Nat) (Option.some Jvm.ClassFile.FieldType.boolean), Jvm.Cond.code ({ cls := "com/example/pelt/pelt/Axis", name := "isReverse", desc := "()Z" } : Jvm.MethodName) prog_3_method_6_code (1 : Nat) (Option.some Jvm.ClassFile.FieldType.boolean), Jvm.Cond.code ({ cls := "com/example/pelt/pelt/AxisListsOverlapPinLaw", name := "expected", desc := "(I)Z" } : Jvm.MethodName) method_3_code (5 : Nat) (Option.some Jvm.ClassFile.FieldType.boolean)]
set_option maxRecDepth 65536 in
theorem codes_eq : words1.filter isCode = codes1 := rfl
theorem w_codes : ∀ c ∈ words1.filter isCode, c.before args0 about1 = true := by
  rw [codes_eq]
  intro c hc
  simp only [codes1, List.mem_cons, List.not_mem_nil, or_false] at hc
  rcases hc with rfl | rfl | rfl | rfl | rfl
  · exact w_c0
  · exact w_c1
  · exact w_c2
  · exact w_c3
  · exact w_c4
set_option maxRecDepth 65536 in
theorem w_t1 : (words1.take 24).all (fun c => isCode c || c.before args0 about1) = true := by decide +kernel
set_option maxRecDepth 65536 in
theorem w_t2 : ((words1.drop 24).take 24).all (fun c => isCode c || c.before args0 about1) = true := by decide +kernel
set_option maxRecDepth 65536 in
theorem w_t3 : (((words1.drop 24).drop 24).take 24).all (fun c => isCode c || c.before args0 about1) = true := by decide +kernel
set_option maxRecDepth 65536 in
theorem w_t4 : (((words1.drop 24).drop 24).drop 24).all (fun c => isCode c || c.before args0 about1) = true := by decide +kernel
theorem w_tables : (allAtoms (Jvm.Cond.code x code maxLocals ret :: tables_1)).before args0 about1 = true := by
  rw [allAtoms_all]
  show words1.all (fun c => c.before args0 about1) = true
  refine all_split ?_ w_codes
  rw [← List.take_append_drop 24 words1, List.all_append, w_t1, ← List.take_append_drop 24 (words1.drop 24), List.all_append, w_t2, ← List.take_append_drop 24 ((words1.drop 24).drop 24), List.all_append, w_t3, w_t4]
  rfl
set_option maxRecDepth 65536 in
theorem w_case : (Jvm.Cond.and given_1 narrow_1).before args0 about1 = true := by decide +kernel
theorem w_applies : (headSpec (Jvm.Cond.code x code maxLocals ret :: tables_1) room_1).applies x e0.platform about1 = true :=
  (Spec.applies_iff w_frames).mpr ⟨w_running, w_runnable, w_alone, w_named, w_hears, w_ripe, w_room, w_tables⟩
theorem atStart : AtStart classFile x code maxLocals ret World_1 tables_1 room_1 Calls_1 rest_1 Pre_1 launch0 p0 e0 about1 theMethod args0 below0 :=
  ⟨lists_1, trivial, launch0.admits_env _ _ _, launch0.least_env, fairChoices_fair.cas, fairChoices_fair.clock, w_frames, w_args, w_heap, w_applies, trivial, trivial, w_case⟩
end start1
theorem witness_1 : WitnessClaimed_1 := ⟨start1.p0, start1.e0, start1.about1, start1.theMethod, start1.args0, start1.below0, start1.atStart⟩
end Jvm.Pilot.@@N@@
