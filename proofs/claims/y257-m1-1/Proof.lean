import JvmDerived
import JvmDerived.Pilot.@@N@@Statement
import JvmDerived.Pilot.@@N@@Code
set_option linter.unusedVariables false
set_option linter.unusedSimpArgs false
namespace Jvm.Pilot.@@N@@
open Jvm Jvm.ClassFile Sem Op Lib Jvm.Free Jvm.Stand Jvm.LawKit Jvm.RoadKit Bundle Jvm.Pilot.@@N@@.Jvm.D
/-! OWN KIT: a walk as a goal that goes forward (OGets), and a list of the fresh objects with what they hold (OView) -/
section OwnKit
variable {p : Program} {l : Launch} {e : Env} {R : Room} {s : State} {m : MethodId} {args : Array Value} {below : List Frame} {meth : Method} {c : Code} {T : State} {locs : List Loc} {cells slots : Nat} {Z : State} {a0 : Array Value} {h h' : Heap} {n0 : Nat}
/-- from U the run comes to an end that P allows -/
def OGets (p : Program) (e : Env) (below : List Frame) (P : State → Outcome → Prop) (U : State) : Prop := ∃ s₂ o, Steps p.tables e below U s₂ ∧ s₂.status = .running ∧ Ended s₂ below o ∧ P s₂ o
def OLeaves (s : State) (Q : Option Value → Heap → List Loc → Prop) (k n : Nat) (t : State) (o : Outcome) : Prop := ∃ v L, o = .returned v ∧ Q v t.heap L ∧ FrameEnd s o t L k n
theorem OGets.step {P : State → Outcome → Prop} {U U' : State} (k : ∀ t, Steps p.tables e below U' t → Steps p.tables e below U t) (g : OGets p e below P U') : OGets p e below P U := by
  obtain ⟨t, o, h1, h2⟩ := g
  exact ⟨t, o, k t h1, h2⟩
theorem OGets.after {P : State → Outcome → Prop} {U U' : State} (k : Steps p.tables e below U U') (g : OGets p e below P U') : OGets p e below P U := by
  obtain ⟨t, o, h1, h2⟩ := g
  exact ⟨t, o, k.trans h1, h2⟩
theorem OGets.enter {P : State → Outcome → Prop} {g g' : JFrame} (q : g = g') (k : OGets p e below P (T.setTop g')) : OGets p e below P (T.setTop g) := q ▸ k
theorem OGets.cut {P : State → Outcome → Prop} {U U' : State} (k : OGets p e below P U') (f : OGets p e below P U' → OGets p e below P U) : OGets p e below P U := f k
theorem OGets.retN (X : Stand p l e R s m args below meth c T locs cells slots) (hx : p.tables.exec = Jvm.exec) (hk : meth.locks = false) {t : FieldType} (hret : meth.sig.returnType = some t) (ht : t = .boolean ∨ t = .byte ∨ t = .char ∨ t = .short) {pc : Nat} {Ls : Array Slot} {z : Int32} {rest : List Value}
    (hd : decode c.code pc = .ok (.ireturn, 1)) {Q : Option Value → Heap → List Loc → Prop} {k n : Nat} (hc : cells ≤ k) (hs : slots ≤ n) (hQ : Q (some (.int (nar t z))) T.heap locs) : OGets p e below (OLeaves s Q k n) (T.setTop (mkF m pc Ls (.int z :: rest))) := by
  obtain ⟨fs, hr, hrun, hended, hW, hsame⟩ := X.leave (v := some (.int (nar t z))) (fun h => by rw [hret] at h; cases h) hk
  exact ⟨_, _, Jvm.RoadKit.retN X hx hret ht hd hr, hrun, hended, _, _, rfl, hQ, ⟨_, rfl⟩, hW, hsame.mono hc hs⟩
theorem OGets.retI (X : Stand p l e R s m args below meth c T locs cells slots) (hx : p.tables.exec = Jvm.exec) (hk : meth.locks = false) (hret : meth.sig.returnType = some .int) {pc : Nat} {Ls : Array Slot} {z : Int32} {rest : List Value}
    (hd : decode c.code pc = .ok (.ireturn, 1)) {Q : Option Value → Heap → List Loc → Prop} {k n : Nat} (hc : cells ≤ k) (hs : slots ≤ n) (hQ : Q (some (.int z)) T.heap locs) : OGets p e below (OLeaves s Q k n) (T.setTop (mkF m pc Ls (.int z :: rest))) := by
  obtain ⟨fs, hr, hrun, hended, hW, hsame⟩ := X.leave (v := some (.int z)) (fun h => by rw [hret] at h; cases h) hk
  exact ⟨_, _, Jvm.RoadKit.retOut X hx hret rfl (Or.inl ⟨rfl, Or.inl rfl, _, rfl⟩) hd hr, hrun, hended, _, _, rfl, hQ, ⟨_, rfl⟩, hW, hsame.mono hc hs⟩
theorem OGets.retJ (X : Stand p l e R s m args below meth c T locs cells slots) (hx : p.tables.exec = Jvm.exec) (hk : meth.locks = false) (hret : meth.sig.returnType = some .long) {pc : Nat} {Ls : Array Slot} {z : Int64} {rest : List Value}
    (hd : decode c.code pc = .ok (.lreturn, 1)) {Q : Option Value → Heap → List Loc → Prop} {k n : Nat} (hc : cells ≤ k) (hs : slots ≤ n) (hQ : Q (some (.long z)) T.heap locs) : OGets p e below (OLeaves s Q k n) (T.setTop (mkF m pc Ls (.long z :: rest))) := by
  obtain ⟨fs, hr, hrun, hended, hW, hsame⟩ := X.leave (v := some (.long z)) (fun h => by rw [hret] at h; cases h) hk
  exact ⟨_, _, Jvm.RoadKit.retOut X hx hret rfl (Or.inr (Or.inl ⟨rfl, rfl, _, rfl⟩)) hd hr, hrun, hended, _, _, rfl, hQ, ⟨_, rfl⟩, hW, hsame.mono hc hs⟩
theorem OGets.retA (X : Stand p l e R s m args below meth c T locs cells slots) (hx : p.tables.exec = Jvm.exec) (hk : meth.locks = false) {t : FieldType} (hret : meth.sig.returnType = some t) (ht : t.isReference = true) {pc : Nat} {Ls : Array Slot} {w : Value} {rest : List Value} (hw : w.isRef = true) (hn : narrow t w = w)
    (hd : decode c.code pc = .ok (.areturn, 1)) {Q : Option Value → Heap → List Loc → Prop} {k n : Nat} (hc : cells ≤ k) (hs : slots ≤ n) (hQ : Q (some w) T.heap locs) : OGets p e below (OLeaves s Q k n) (T.setTop (mkF m pc Ls (w :: rest))) := by
  obtain ⟨fs, hr, hrun, hended, hW, hsame⟩ := X.leave (v := some w) (fun h => by rw [hret] at h; cases h) hk
  exact ⟨_, _, Jvm.RoadKit.retOut X hx hret hn (Or.inr (Or.inr (Or.inr (Or.inr ⟨rfl, ht, hw⟩)))) hd hr, hrun, hended, _, _, rfl, hQ, ⟨_, rfl⟩, hW, hsame.mono hc hs⟩
theorem OGets.retV (X : Stand p l e R s m args below meth c T locs cells slots) (hx : p.tables.exec = Jvm.exec) (hk : meth.locks = false) (hret : meth.sig.returnType = none) {pc : Nat} {Ls : Array Slot}
    (hd : decode c.code pc = .ok (.return_, 1)) {Q : Option Value → Heap → List Loc → Prop} {k n : Nat} (hc : cells ≤ k) (hs : slots ≤ n) (hQ : Q none T.heap locs) : OGets p e below (OLeaves s Q k n) (T.setTop (mkF m pc Ls [])) := by
  obtain ⟨fs, hr, hrun, hended, hW, hsame⟩ := X.leave (v := none) (fun _ => rfl) hk
  exact ⟨_, _, X.returnOut hx hret hd hr, hrun, hended, _, _, rfl, hQ, ⟨_, rfl⟩, hW, hsame.mono hc hs⟩
/-- an object (class, fields, their values) or an array (what it is of, its components) -/
abbrev OObj : Type := Sum (String × List (String × String × String) × List Value) (FieldType × List Value)
def OHold (Z : State) (h : Heap) (a : Addr) (o : OObj) : Prop :=
  (∀ q, o = Sum.inl q → Exa Z h a q.1 ∧ q.2.1.Pairwise (fun x y => Jvm.RoadKit.slotOf Z x.1 x.2.1 x.2.2 ≠ Jvm.RoadKit.slotOf Z y.1 y.2.1 y.2.2) ∧ ∀ (j : Nat) (k : String × String × String) (v : Value), q.2.1[j]? = some k → q.2.2[j]? = some v → Fld Z h a k.1 k.2.1 k.2.2 v) ∧
  (∀ q, o = Sum.inr q → ∃ cl : Cell, Arr Z h a cl q.1 ∧ cl.slots.toList = q.2)
variable {a b : Addr} {o : OObj} {sl : Nat} {v : Value} {os : List (Addr × OObj)} {C : String} {ns : List (String × String × String)} {vs : List Value} {ty : FieldType}
theorem OHold.other (W : Wr h h' a sl v) (hne : b ≠ a) (H : OHold Z h b o) : OHold Z h' b o := by
  refine ⟨fun q hq => ?_, fun q hq => ?_⟩
  · obtain ⟨h1, h2, h3⟩ := H.1 q hq
    exact ⟨h1.wr W, h2, fun j k w e1 e2 => (h3 j k w e1 e2).other W (Or.inl hne)⟩
  · obtain ⟨cl, h1, h2⟩ := H.2 q hq
    exact ⟨cl, h1.other W hne, h2⟩
theorem OHold.ext (E : Ext h h') (H : OHold Z h b o) : OHold Z h' b o := by
  refine ⟨fun q hq => ?_, fun q hq => ?_⟩
  · obtain ⟨h1, h2, h3⟩ := H.1 q hq
    exact ⟨h1.ext E, h2, fun j k w e1 e2 => (h3 j k w e1 e2).ext E⟩
  · obtain ⟨cl, h1, h2⟩ := H.2 q hq
    exact ⟨cl, h1.ext E, h2⟩
theorem OHold.obj (h1 : Exa Z h a C) (h2 : ns.Pairwise (fun x y => Jvm.RoadKit.slotOf Z x.1 x.2.1 x.2.2 ≠ Jvm.RoadKit.slotOf Z y.1 y.2.1 y.2.2)) (h3 : ∀ (j : Nat) (k : String × String × String) (v : Value), ns[j]? = some k → vs[j]? = some v → Fld Z h a k.1 k.2.1 k.2.2 v) : OHold Z h a (Sum.inl (C, ns, vs)) :=
  ⟨fun q hq => (by cases hq; exact ⟨h1, h2, h3⟩), fun q hq => (by cases hq)⟩
theorem OHold.arr {cl : Cell} (h1 : Arr Z h a cl ty) (h2 : cl.slots.toList = vs) : OHold Z h a (Sum.inr (ty, vs)) :=
  ⟨fun q hq => (by cases hq), fun q hq => (by cases hq; exact ⟨cl, h1, h2⟩)⟩
theorem OHold.putF (H : OHold Z h a (Sum.inl (C, ns, vs))) {j : Nat} {k : String × String × String} (hj : ns[j]? = some k) (W : Wr h h' a (Jvm.RoadKit.slotOf Z k.1 k.2.1 k.2.2) v) : OHold Z h' a (Sum.inl (C, ns, vs.set j v)) := by
  obtain ⟨h1, h2, h3⟩ := H.1 _ rfl
  refine OHold.obj (h1.wr W) h2 fun i k' w e1 e2 => ?_
  by_cases q : j = i
  · subst q
    rw [hj] at e1; cases e1
    rw [List.getElem?_set] at e2
    split at e2
    · split at e2
      · rename_i hlt
        cases e2
        exact (h3 j k _ hj (List.getElem?_eq_getElem hlt)).same W
      · cases e2
    · exact absurd rfl ‹_›
  · rw [List.getElem?_set_ne q] at e2
    refine (h3 i k' w e1 e2).other W (Or.inr ?_)
    obtain ⟨hi, e1⟩ := List.getElem?_eq_some_iff.mp e1
    obtain ⟨hj', hj⟩ := List.getElem?_eq_some_iff.mp hj
    have P := List.pairwise_iff_getElem.mp h2
    subst e1 hj
    rcases Nat.lt_or_gt_of_ne q with q | q
    · exact (P j i hj' hi q).symm
    · exact P i j hi hj' q
theorem OHold.putA (H : OHold Z h a (Sum.inr (ty, vs))) {j : Nat} (W : Wr h h' a j v) : OHold Z h' a (Sum.inr (ty, vs.set j v)) := by
  obtain ⟨cl, h1, h2⟩ := H.2 _ rfl
  exact OHold.arr (h1.same W) (by show (cl.slots.setIfInBounds j v).toList = vs.set j v; rw [Array.toList_setIfInBounds]; exact congrArg (fun z => z.set j v) h2)
/-- the objects made since the law began, as a list: no two at one place, none old, each as said -/
def OView (Z : State) (n0 : Nat) (h : Heap) (os : List (Addr × OObj)) : Prop := (os.map (·.1)).Nodup ∧ ∀ q ∈ os, n0 ≤ q.1 ∧ q.1 < h.size ∧ OHold Z h q.1 q.2
theorem OView.nil (Z : State) (n0 : Nat) (h : Heap) : OView Z n0 h [] := ⟨List.nodup_nil, fun q hq => by cases hq⟩
theorem OView.perm {os' : List (Addr × OObj)} (V : OView Z n0 h os) (P : os.Perm os') : OView Z n0 h os' := ⟨(P.map _).nodup_iff.mp V.1, fun q hq => V.2 q (P.mem_iff.mpr hq)⟩
theorem own_bring {α : Type} : ∀ (os : List α) (i : Nat) (q : α), os[i]? = some q → os.Perm (q :: os.eraseIdx i)
  | [], i, q, hq => by cases hq
  | x :: t, 0, q, hq => by cases hq; exact List.Perm.refl _
  | x :: t, i + 1, q, hq => (List.Perm.cons x (own_bring t i q hq)).trans (List.Perm.swap q x _)
theorem own_set {α : Type} : ∀ (os : List α) (i : Nat) (q r : α), os[i]? = some q → (r :: os.eraseIdx i).Perm (os.set i r)
  | [], i, q, r, hq => by cases hq
  | x :: t, 0, q, r, hq => List.Perm.refl _
  | x :: t, i + 1, q, r, hq => (List.Perm.swap x r _).trans (List.Perm.cons x (own_set t i q r hq))
theorem OView.bring (V : OView Z n0 h os) (i : Nat) {q : Addr × OObj} (hq : os[i]? = some q) : OView Z n0 h (q :: os.eraseIdx i) := V.perm (own_bring os i q hq)
theorem OView.at (V : OView Z n0 h os) (i : Nat) {q : Addr × OObj} (hq : os[i]? = some q) : n0 ≤ q.1 ∧ q.1 < h.size ∧ OHold Z h q.1 q.2 := V.2 q (List.mem_of_getElem? hq)
theorem OView.old (V : OView Z n0 h os) (i : Nat) {a : Addr} {o : OObj} (hq : os[i]? = some (a, o)) : n0 ≤ a := (V.at i hq).1
theorem OView.big (V : OView Z n0 h os) (i : Nat) {q : Addr × OObj} (hq : os[i]? = some q) : n0 ≤ h.size := Nat.le_trans (V.at i hq).1 (Nat.le_of_lt (V.at i hq).2.1)
theorem OView.exa (V : OView Z n0 h os) (i : Nat) {a : Addr} (hq : os[i]? = some (a, Sum.inl (C, ns, vs))) : Exa Z h a C := ((V.at i hq).2.2.1 _ rfl).1
theorem OView.fld (V : OView Z n0 h os) (i : Nat) {a : Addr} (hq : os[i]? = some (a, Sum.inl (C, ns, vs))) (j : Nat) {O n d : String} (hj : ns[j]? = some (O, n, d)) (hv : vs[j]? = some v) : Fld Z h a O n d v := ((V.at i hq).2.2.1 _ rfl).2.2 j _ v hj hv
theorem OView.arr (V : OView Z n0 h os) (i : Nat) {a : Addr} (hq : os[i]? = some (a, Sum.inr (ty, vs))) : ∃ cl : Cell, Arr Z h a cl ty ∧ cl.slots.toList = vs := (V.at i hq).2.2.2 _ rfl
theorem OView.up (V : OView Z n0 h os) (W : Wr h h' a sl v) (i : Nat) {o o' : OObj} (hq : os[i]? = some (a, o)) (H : OHold Z h' a o') : OView Z n0 h' (os.set i (a, o')) := by
  have V1 := V.bring i hq
  have V2 : OView Z n0 h' ((a, o') :: os.eraseIdx i) := by
    refine ⟨V1.1, fun q hq' => ?_⟩
    rcases List.mem_cons.mp hq' with rfl | hq'
    · exact ⟨(V.at i hq).1, by rw [W.size]; exact (V.at i hq).2.1, H⟩
    · obtain ⟨h1, h2, h3⟩ := V1.2 q (List.mem_cons_of_mem _ hq')
      refine ⟨h1, by rw [W.size]; exact h2, h3.other W fun e => ?_⟩
      have := (List.nodup_cons.mp V1.1).1
      exact this (List.mem_map.mpr ⟨q, hq', e⟩)
  exact V2.perm (own_set os i _ _ hq)
theorem OView.putF (V : OView Z n0 h os) (i : Nat) (hq : os[i]? = some (a, Sum.inl (C, ns, vs))) (j : Nat) {O n d : String} (hj : ns[j]? = some (O, n, d)) (W : Wr h h' a (Jvm.RoadKit.slotOf Z O n d) v) : OView Z n0 h' (os.set i (a, Sum.inl (C, ns, vs.set j v))) := V.up W i hq ((V.at i hq).2.2.putF hj W)
theorem OView.putA (V : OView Z n0 h os) (i : Nat) (hq : os[i]? = some (a, Sum.inr (ty, vs))) {j : Nat} (W : Wr h h' a j v) : OView Z n0 h' (os.set i (a, Sum.inr (ty, vs.set j v))) := V.up W i hq ((V.at i hq).2.2.putA W)
theorem OView.ext (V : OView Z n0 h os) (E : Ext h h') : OView Z n0 h' os := ⟨V.1, fun q hq => ⟨(V.2 q hq).1, Nat.lt_of_lt_of_le (V.2 q hq).2.1 E.1, (V.2 q hq).2.2.ext E⟩⟩
theorem OView.cons (V : OView Z n0 h os) (hn : n0 ≤ h.size) (E : Ext h h') (hlt : h.size < h'.size) (H : OHold Z h' h.size o) : OView Z n0 h' ((h.size, o) :: os) := by
  refine ⟨List.nodup_cons.mpr ⟨fun hm => ?_, V.1⟩, fun q hq => ?_⟩
  · obtain ⟨q, h1, h2⟩ := List.mem_map.mp hm
    exact Nat.lt_irrefl _ (h2 ▸ (V.2 q h1).2.1)
  · rcases List.mem_cons.mp hq with rfl | hq
    · exact ⟨hn, hlt, H⟩
    · exact (V.ext E).2 q hq
theorem own_pair (hL : ∀ x ∈ ns, Laid Z a0 C x.1 x.2.1 x.2.2) (hd : ∀ x ∈ ns, (parseFieldDescriptor x.2.2).isSome = true) (hn : ns.Pairwise (fun x y => x.2.1 ≠ y.2.1)) : ns.Pairwise (fun x y => Jvm.RoadKit.slotOf Z x.1 x.2.1 x.2.2 ≠ Jvm.RoadKit.slotOf Z y.1 y.2.1 y.2.2) :=
  hn.imp_of_mem fun {x y} hx hy hne => by
    obtain ⟨t, ht⟩ := Option.isSome_iff_exists.mp (hd x hx)
    obtain ⟨t', ht'⟩ := Option.isSome_iff_exists.mp (hd y hy)
    exact slot_ne (hL x hx) (hL y hy) hne ht ht'
/-- a fresh object, as 'new' leaves it -/
theorem OView.newObj (V : OView Z n0 h os) (hn : n0 ≤ h.size) (E : Ext h h') (A : Exa Z h' h.size C) (D : ∀ {O nm d : String} {ty : FieldType}, Laid Z a0 C O nm d → parseFieldDescriptor d = some ty → Fld Z h' h.size O nm d (defaultValue ty))
    (hL : ∀ x ∈ ns, Laid Z a0 C x.1 x.2.1 x.2.2) (hd : ns.map (fun x => (parseFieldDescriptor x.2.2).map defaultValue) = vs.map some) (hnm : ns.Pairwise (fun x y => x.2.1 ≠ y.2.1)) : OView Z n0 h' ((h.size, Sum.inl (C, ns, vs)) :: os) := by
  have hs : ∀ x ∈ ns, (parseFieldDescriptor x.2.2).isSome = true := fun x hx => by
    have h1 : (parseFieldDescriptor x.2.2).map defaultValue ∈ vs.map some := hd ▸ List.mem_map.mpr ⟨x, hx, rfl⟩
    obtain ⟨w, -, h2⟩ := List.mem_map.mp h1
    cases hp : parseFieldDescriptor x.2.2 with
    | none => rw [hp] at h2; cases h2
    | some t => rfl
  refine V.cons hn E A.lt (OHold.obj A (own_pair hL hs hnm) fun j k w e1 e2 => ?_)
  have h1 : (ns.map (fun x => (parseFieldDescriptor x.2.2).map defaultValue))[j]? = some ((parseFieldDescriptor k.2.2).map defaultValue) := by rw [List.getElem?_map, e1]; rfl
  have h2 : (vs.map some)[j]? = some (some w) := by rw [List.getElem?_map, e2]; rfl
  rw [hd, h2] at h1
  have h3 := Option.some.inj h1
  cases hp : parseFieldDescriptor k.2.2 with
  | none => rw [hp] at h3; cases h3
  | some t =>
    rw [hp] at h3
    cases Option.some.inj h3
    exact D (hL k (List.mem_of_getElem? e1)) hp
/-- a fresh array -/
theorem OView.newArr (V : OView Z n0 h os) (hn : n0 ≤ h.size) (E : Ext h h') {cA : ClassId} {z : Int32} (A : Arr Z h' h.size (newA cA ty z) ty) (k : Nat) (hk : z.toNatClampNeg = k) : OView Z n0 h' ((h.size, Sum.inr (ty, List.replicate k (defaultValue ty))) :: os) := by
  refine V.cons hn E A.lt (OHold.arr A ?_)
  rw [← hk]; simp [newA]
theorem own_inb {cl : Cell} {vs : List Value} (hs : cl.slots.toList = vs) {j : Int32} (k : Nat) (hj : j.toInt = (k : Int)) (hk : k < vs.length) : ¬ (j < 0 ∨ cl.slots.size ≤ j.toNatClampNeg) := by
  have h1 : cl.slots.size = vs.length := by rw [← hs]; simp
  have e0 : (0 : Int32).toInt = 0 := rfl
  rw [h1]
  simp only [Int32.lt_iff_toInt_lt, Int32.toNatClampNeg, hj, e0]
  omega
theorem own_clamp {j : Int32} (k : Nat) (hj : j.toInt = (k : Int)) : j.toNatClampNeg = k := by simp only [Int32.toNatClampNeg, hj]; omega
theorem own_get {cl : Cell} {vs : List Value} (hs : cl.slots.toList = vs) {j : Int32} (k : Nat) (hj : j.toInt = (k : Int)) {v : Value} (hv : vs[k]? = some v) : cl.slots[j.toNatClampNeg]? = some v := by
  rw [own_clamp k hj, ← Array.getElem?_toList, hs]; exact hv
theorem own_wr {vs : List Value} {j : Int32} (k : Nat) (hj : j.toInt = (k : Int)) (W : Wr h h' a j.toNatClampNeg v) : Wr h h' a k v := by rw [own_clamp k hj] at W; exact W
theorem own_len {cl : Cell} {vs : List Value} (hs : cl.slots.toList = vs) : cl.slots.size = vs.length := by rw [← hs]; simp
end OwnKit
/-! OWN KIT, second part: a walk that may load String constants (the wide frame) -/
section OwnWide
variable {p : Program} {l : Launch} {e : Env} {R : Room} {s : State} {m : MethodId} {args : Array Value} {below : List Frame} {meth : Method} {c : Code} {T : State} {locs : List Loc} {cells slots : Nat} {Z : State} {a0 : Array Value} {h h' : Heap} {n0 : Nat}
def OLeavesW (s Z : State) (EL : List (String × Nat)) (Q : Option Value → Heap → List Loc → Prop) (k n : Nat) (t : State) (o : Outcome) : Prop := ∃ v L, o = .returned v ∧ Q v t.heap L ∧ CHr Z EL s.vm s.heap t.vm t.heap ∧ ReturnedEndW s o t L k n
theorem OGets.retNW {vm₁ : Vm} {j : Nat} {EL : List (String × Nat)} (X : Stand p l e R (s.setVm vm₁) m args below meth c T locs cells slots) (hx : p.tables.exec = Jvm.exec) (hk : meth.locks = false) {t : FieldType} (hret : meth.sig.returnType = some t) (ht : t = .boolean ∨ t = .byte ∨ t = .char ∨ t = .short) {pc : Nat} {Ls : Array Slot} {z : Int32} {rest : List Value}
    (hd : decode c.code pc = .ok (.ireturn, 1)) (hS : s.Since vm₁ j) (hj : j ≤ T.heap.size) (hR : CHr Z EL s.vm s.heap T.vm T.heap) {Q : Option Value → Heap → List Loc → Prop} {k n : Nat} (hc : cells ≤ k) (hs : slots ≤ n) (hQ : Q (some (.int (nar t z))) T.heap locs) : OGets p e below (OLeavesW s Z EL Q k n) (T.setTop (mkF m pc Ls (.int z :: rest))) := by
  obtain ⟨fs, hr, hrun, hended, hW⟩ := X.leaveW hS hj (v := some (.int (nar t z))) (fun h => by rw [hret] at h; cases h) hk
  exact ⟨_, _, Jvm.RoadKit.retN X hx hret ht hd hr, hrun, hended, _, _, rfl, hQ, hR, hW.1, hW.2.1, hW.2.2.1, hW.2.2.2.mono hc hs⟩
theorem own_str {a b : Addr} {k : ClassId} {z : Int32} {vs : List Value} {ns : List (String × String × String)} {kk : Nat} (hL : ∀ x ∈ ns, Laid Z a0 "java/lang/String" x.1 x.2.1 x.2.2) (wi : (Cond.instantiable "java/lang/String" kk).before a0 Z = true) (E : Exa Z h a "java/lang/String") (Fv : Fld Z h a "java/lang/String" "value" "[B" (.ref b)) (Fc : Fld Z h a "java/lang/String" "coder" "B" (.int 0)) (A : Arv Z h b k .byte z vs (.int 0))
    (hq : (ns == [("java/lang/String", "value", "[B"), ("java/lang/String", "coder", "B")] && z.toNatClampNeg == vs.length) = true) : OView Z 0 h [((a, Sum.inl ("java/lang/String", ns, [.ref b, .int 0])) : Addr × OObj), (b, Sum.inr (.byte, vs))] := by
  obtain ⟨cl, Ar, -, hsz, -, H, -⟩ := A
  simp only [Bool.and_eq_true, beq_iff_eq] at hq
  obtain ⟨rfl, hl⟩ := hq
  have hne : a ≠ b := ne_arr E wi Ar
  refine ⟨by simpa using hne, fun q hq => ?_⟩
  rcases List.mem_cons.mp hq with rfl | hq
  · refine ⟨Nat.zero_le _, E.lt, OHold.obj E (own_pair hL (by decide) (by decide)) fun j k v e1 e2 => ?_⟩
    match j with
    | 0 => cases e1; cases e2; exact Fv
    | 1 => cases e1; cases e2; exact Fc
    | j + 2 => cases e1
  · cases List.mem_singleton.mp hq
    refine ⟨Nat.zero_le _, Ar.lt, OHold.arr Ar ?_⟩
    refine List.ext_getElem? fun i => ?_
    by_cases hi : i < cl.slots.size
    · have h1 := H i hi
      rw [Array.getElem?_toList, h1, List.getD_eq_getElem?_getD]
      have h2 : i < vs.length := by omega
      simp [h2]
    · rw [Array.getElem?_toList, Array.getElem?_eq_none (by omega), List.getElem?_eq_none (by omega)]
end OwnWide
theorem own_wS {Z : State} {a0 : Array Value} (hw : ∀ d ∈ tables_1, d.before a0 Z = true) : ∀ a ∈ Bundle.stringAtoms, a.before a0 Z = true := by
  intro a ha
  simp only [Bundle.stringAtoms, Bundle.sN, List.mem_cons, List.not_mem_nil, or_false] at ha
  rcases ha with rfl | rfl | rfl | rfl | rfl | rfl | rfl
  · exact (hw _ (List.mem_of_getElem? (i := 6) rfl))
  · exact (hw _ (List.mem_of_getElem? (i := 7) rfl))
  · exact (hw _ (List.mem_of_getElem? (i := 8) rfl))
  · exact (hw _ (List.mem_of_getElem? (i := 9) rfl))
  · exact (hw _ (List.mem_of_getElem? (i := 10) rfl))
  · exact (hw _ (List.mem_of_getElem? (i := 11) rfl))
  · exact (hw _ (List.mem_of_getElem? (i := 12) rfl))
def ns_String : List (String × String × String) := [("java/lang/String", "value", "[B"), ("java/lang/String", "coder", "B")]
theorem lay_ns_String {Z : State} {a0 : Array Value} (hw : ∀ d ∈ tables_1, d.before a0 Z = true) : ∀ x ∈ ns_String, Laid Z a0 "java/lang/String" x.1 x.2.1 x.2.2 := by
  intro x hx
  simp only [ns_String, List.mem_cons, List.not_mem_nil, or_false] at hx
  rcases hx with rfl | rfl
  · exact Or.inr (hw _ (List.mem_of_getElem? (i := 9) rfl))
  · exact Or.inr (hw _ (List.mem_of_getElem? (i := 10) rfl))
def f_can_15 (p0 : Int32) : Int32 := (0 : Int32)
def f_can (p0 : Int32) : Int32 := (if p0 < (0 : Int32) then f_can_15 p0 else (if (255 : Int32) < p0 then f_can_15 p0 else (1 : Int32)))
theorem dj43m4_15 : decode jdk_43_method_4_code 15 = .ok (.iconst 0, 1) := by decide +kernel
theorem dj43m4_16 : decode jdk_43_method_4_code 16 = .ok (.ireturn, 1) := by decide +kernel
theorem pn_0 : plainName "java/lang/StringLatin1" = true := by first | (simp [plainName, overriddenIn]; done) | decide +kernel
theorem dj43m4_0 : decode jdk_43_method_4_code 0 = .ok (.iload_n 0, 1) := by decide +kernel
theorem dj43m4_1 : decode jdk_43_method_4_code 1 = .ok (.ifCond .lt 14, 3) := by decide +kernel
theorem dj43m4_4 : decode jdk_43_method_4_code 4 = .ok (.iload_n 0, 1) := by decide +kernel
theorem dj43m4_5 : decode jdk_43_method_4_code 5 = .ok (.sipush 255, 3) := by decide +kernel
theorem dj43m4_8 : decode jdk_43_method_4_code 8 = .ok (.if_icmp .gt 7, 3) := by decide +kernel
theorem dj43m4_11 : decode jdk_43_method_4_code 11 = .ok (.iconst 1, 1) := by decide +kernel
theorem dj43m4_12 : decode jdk_43_method_4_code 12 = .ok (.goto 4, 3) := by decide +kernel
theorem ef_can (m : MethodId) (x0 : Int32) : entryFrame m #[(.int x0)] 1 = mkF m 0 #[.val (.int x0)] [] := by first | (simp [entryFrame, mkF, argsToLocals, Value.category]; done) | rfl
def Q_can (Z : State) (p0 : Int32) (h0 : Heap) (n0 : Nat) (v : Option Value) (h : Heap) (L : List Loc) : Prop := v = some (.int (f_can p0)) ∧ L = [] ∧ h = h0
set_option maxRecDepth 65536 in
set_option maxHeartbeats 40000000 in
theorem rm_can (l : Launch) (Z : State) (a0 : Array Value) (hw : ∀ d ∈ tables_1, d.before a0 Z = true) (ws : List Jvm.Cond) (p0 : Int32) (h0 : Heap) (n0 : Nat) (Z0 : n0 ≤ h0.size) :
    MetFree l (⟨"java/lang/StringLatin1", "canEncode", "(I)Z"⟩ : MethodName) (head1 (Jvm.Cond.code (⟨"java/lang/StringLatin1", "canEncode", "(I)Z"⟩ : MethodName) jdk_43_method_4_code 1 (some .boolean) :: ws) ({ frames := 0, cells := 0, slots := 0, locals := 0 } : Room)) (fun a_ U => a_ = #[(.int p0)] ∧ Z.Warmed39 U.vm ∧ U.heap = h0) (fun _ _ _ _ _ => True) (fun _ U o U' => ∃ v L, o = .returned v ∧ Q_can Z p0 h0 n0 v U'.heap L ∧ FrameEnd U o U' L ({ frames := 0, cells := 0, slots := 0, locals := 0 } : Room).cells ({ frames := 0, cells := 0, slots := 0, locals := 0 } : Room).slots) := by
  refine MetFree.of_bodySF (plainFor_of_name pn_0) hisR ?_
  intro p e s m args below meth c s₁ Bd hml0 hP hK
  obtain ⟨rfl, hZ, hh⟩ := hP
  have hx := Bd.exec
  have hby := Bd.bytes
  have hlk : meth.locks = false := Bd.notSynchronized
  have hml : c.maxLocals = 1 := hml0
  have hown : s.vm.findClass "java/lang/StringLatin1" = some m.cls := findClass_of_methodNamed Bd.named
  have hnm := (name_of_methodNamed Bd.named Bd.method).1
  have X0 : Stand p l e ({ frames := 0, cells := 0, slots := 0, locals := 0 } : Room) s m #[(.int p0)] below meth c s₁ [] 0 0 := Stand.of_body Bd
  have e0 : s₁.heap = h0 := by rw [← hh, Bd.state]; rfl
  have N0 := Fr.nil n0
  have J15 : ∀ (T : State), Stand p l e ({ frames := 0, cells := 0, slots := 0, locals := 0 } : Room) s m #[(.int p0)] below meth c T [] 0 0 → T.heap = h0 → f_can p0 = f_can_15 p0 → OGets p e below (OLeaves s (Q_can Z p0 h0 n0 ) ({ frames := 0, cells := 0, slots := 0, locals := 0 } : Room).cells ({ frames := 0, cells := 0, slots := 0, locals := 0 } : Room).slots) (T.setTop (mkF m 15 #[.val (.int p0)] [])) := by
    intro T X eT hv'
    have hv : f_can p0 = (0 : Int32) := hv'
    show OGets p e below _ (T.setTop (mkF m 15 #[.val (.int p0)] []))
    refine OGets.step (fun _ => XS.iconst X.here hx rfl (hb hby dj43m4_15)) ?_
    show OGets p e below _ (T.setTop (mkF m 16 #[.val (.int p0)] [(.int (0 : Int32))]))
    refine OGets.retN X hx hlk (t := .boolean) Bd.returns (by simp) (hb hby dj43m4_16) (Nat.le_of_ble_eq_true rfl) (Nat.le_of_ble_eq_true rfl) ?_
    exact ⟨congrArg (fun z => some (Value.int z)) hv.symm, rfl, eT⟩
  have hv0 : f_can p0 = (if p0 < (0 : Int32) then f_can_15 p0 else (if (255 : Int32) < p0 then f_can_15 p0 else (1 : Int32))) := rfl
  show OGets p e below (OLeaves s (Q_can Z p0 h0 n0 ) ({ frames := 0, cells := 0, slots := 0, locals := 0 } : Room).cells ({ frames := 0, cells := 0, slots := 0, locals := 0 } : Room).slots) _
  refine OGets.enter (ef_can m p0) ?_
  show OGets p e below _ (s₁.setTop (mkF m 0 #[.val (.int p0)] []))
  refine OGets.step (fun _ => XS.iloadN X0.here hx rfl (hb hby dj43m4_0) rfl) ?_
  show OGets p e below _ (s₁.setTop (mkF m 1 #[.val (.int p0)] [(.int p0)]))
  by_cases hc1_1 : p0 < (0 : Int32)
  · refine OGets.step (fun _ => XS.ifYes X0.here hx rfl (pc0 := 1) (pc' := 15) rfl (hb hby dj43m4_1) rfl ((if0 _ _).trans (tlt hc1_1).1) (by decide) (by decide)) ?_
    have hv2 := hv0.trans (if_pos hc1_1)
    show OGets p e below _ (s₁.setTop (mkF m 15 #[.val (.int p0)] []))
    exact J15 s₁ X0 e0 hv2
  · refine OGets.step (fun _ => XS.ifNo X0.here hx rfl (hb hby dj43m4_1) rfl ((if0 _ _).trans (flt hc1_1).1)) ?_
    have hv3 := hv0.trans (if_neg hc1_1)
    show OGets p e below _ (s₁.setTop (mkF m 4 #[.val (.int p0)] []))
    refine OGets.step (fun _ => XS.iloadN X0.here hx rfl (hb hby dj43m4_4) rfl) ?_
    show OGets p e below _ (s₁.setTop (mkF m 5 #[.val (.int p0)] [(.int p0)]))
    refine OGets.step (fun _ => XS.sipush X0.here hx rfl (hb hby dj43m4_5)) ?_
    show OGets p e below _ (s₁.setTop (mkF m 8 #[.val (.int p0)] [(.int (255 : Int32)), (.int p0)]))
    by_cases hc8_4 : (255 : Int32) < p0
    · refine OGets.step (fun _ => XS.icmpYes X0.here hx rfl (pc0 := 8) (pc' := 15) rfl (hb hby dj43m4_8) rfl (tlt hc8_4).2.2.1 (by decide) (by decide)) ?_
      have hv5 := hv3.trans (if_pos hc8_4)
      show OGets p e below _ (s₁.setTop (mkF m 15 #[.val (.int p0)] []))
      exact J15 s₁ X0 e0 hv5
    · refine OGets.step (fun _ => XS.icmpNo X0.here hx rfl (hb hby dj43m4_8) rfl (flt hc8_4).2.2.1) ?_
      have hv6 := hv3.trans (if_neg hc8_4)
      show OGets p e below _ (s₁.setTop (mkF m 11 #[.val (.int p0)] []))
      refine OGets.step (fun _ => XS.iconst X0.here hx rfl (hb hby dj43m4_11)) ?_
      show OGets p e below _ (s₁.setTop (mkF m 12 #[.val (.int p0)] [(.int (1 : Int32))]))
      refine OGets.step (fun _ => XS.goto X0.here hx rfl (pc0 := 12) (pc' := 16) rfl (hb hby dj43m4_12) (by decide) (by decide)) ?_
      show OGets p e below _ (s₁.setTop (mkF m 16 #[.val (.int p0)] [(.int (1 : Int32))]))
      refine OGets.retN X0 hx hlk (t := .boolean) Bd.returns (by simp) (hb hby dj43m4_16) (Nat.le_of_ble_eq_true rfl) (Nat.le_of_ble_eq_true rfl) ?_
      exact ⟨congrArg (fun z => some (Value.int z)) hv6.symm, rfl, e0⟩
def f_mx (p0 : Int32) (p1 : Int32) : Int32 := (if p0 < p1 then p1 else p0)
theorem dj29m65_0 : decode jdk_29_method_65_code 0 = .ok (.iload_n 0, 1) := by decide +kernel
theorem dj29m65_1 : decode jdk_29_method_65_code 1 = .ok (.iload_n 1, 1) := by decide +kernel
theorem dj29m65_2 : decode jdk_29_method_65_code 2 = .ok (.if_icmp .lt 7, 3) := by decide +kernel
theorem dj29m65_9 : decode jdk_29_method_65_code 9 = .ok (.iload_n 1, 1) := by decide +kernel
theorem dj29m65_10 : decode jdk_29_method_65_code 10 = .ok (.ireturn, 1) := by decide +kernel
theorem dj29m65_5 : decode jdk_29_method_65_code 5 = .ok (.iload_n 0, 1) := by decide +kernel
theorem dj29m65_6 : decode jdk_29_method_65_code 6 = .ok (.goto 4, 3) := by decide +kernel
theorem ef_mx (m : MethodId) (x0 : Int32) (x1 : Int32) : entryFrame m #[(.int x0), (.int x1)] 2 = mkF m 0 #[.val (.int x0), .val (.int x1)] [] := by first | (simp [entryFrame, mkF, argsToLocals, Value.category]; done) | rfl
def Q_mx (Z : State) (p0 : Int32) (p1 : Int32) (h0 : Heap) (n0 : Nat) (v : Option Value) (h : Heap) (L : List Loc) : Prop := v = some (.int (f_mx p0 p1)) ∧ L = [] ∧ h = h0
set_option maxRecDepth 65536 in
set_option maxHeartbeats 40000000 in
theorem rm_mx (l : Launch) (Z : State) (a0 : Array Value) (hw : ∀ d ∈ tables_1, d.before a0 Z = true) (ws : List Jvm.Cond) (p0 : Int32) (p1 : Int32) (h0 : Heap) (n0 : Nat) (Z0 : n0 ≤ h0.size) :
    MetFree l (⟨"java/lang/Math", "max", "(II)I"⟩ : MethodName) (head1 (Jvm.Cond.code (⟨"java/lang/Math", "max", "(II)I"⟩ : MethodName) jdk_29_method_65_code 2 (some .int) :: ws) ({ frames := 0, cells := 0, slots := 0, locals := 0 } : Room)) (fun a_ U => a_ = #[(.int p0), (.int p1)] ∧ Z.Warmed39 U.vm ∧ U.heap = h0) (fun _ _ _ _ _ => True) (fun _ U o U' => ∃ v L, o = .returned v ∧ Q_mx Z p0 p1 h0 n0 v U'.heap L ∧ FrameEnd U o U' L ({ frames := 0, cells := 0, slots := 0, locals := 0 } : Room).cells ({ frames := 0, cells := 0, slots := 0, locals := 0 } : Room).slots) := by
  refine MetFree.of_bodySF (Jvm.Free.JP.mathPlain rfl (by decide +kernel)) hisR ?_
  intro p e s m args below meth c s₁ Bd hml0 hP hK
  obtain ⟨rfl, hZ, hh⟩ := hP
  have hx := Bd.exec
  have hby := Bd.bytes
  have hlk : meth.locks = false := Bd.notSynchronized
  have hml : c.maxLocals = 2 := hml0
  have hown : s.vm.findClass "java/lang/Math" = some m.cls := findClass_of_methodNamed Bd.named
  have hnm := (name_of_methodNamed Bd.named Bd.method).1
  have X0 : Stand p l e ({ frames := 0, cells := 0, slots := 0, locals := 0 } : Room) s m #[(.int p0), (.int p1)] below meth c s₁ [] 0 0 := Stand.of_body Bd
  have e0 : s₁.heap = h0 := by rw [← hh, Bd.state]; rfl
  have N0 := Fr.nil n0
  have hv0 : f_mx p0 p1 = (if p0 < p1 then p1 else p0) := rfl
  show OGets p e below (OLeaves s (Q_mx Z p0 p1 h0 n0 ) ({ frames := 0, cells := 0, slots := 0, locals := 0 } : Room).cells ({ frames := 0, cells := 0, slots := 0, locals := 0 } : Room).slots) _
  refine OGets.enter (ef_mx m p0 p1) ?_
  show OGets p e below _ (s₁.setTop (mkF m 0 #[.val (.int p0), .val (.int p1)] []))
  refine OGets.step (fun _ => XS.iloadN X0.here hx rfl (hb hby dj29m65_0) rfl) ?_
  show OGets p e below _ (s₁.setTop (mkF m 1 #[.val (.int p0), .val (.int p1)] [(.int p0)]))
  refine OGets.step (fun _ => XS.iloadN X0.here hx rfl (hb hby dj29m65_1) rfl) ?_
  show OGets p e below _ (s₁.setTop (mkF m 2 #[.val (.int p0), .val (.int p1)] [(.int p1), (.int p0)]))
  by_cases hc2_7 : p0 < p1
  · refine OGets.step (fun _ => XS.icmpYes X0.here hx rfl (pc0 := 2) (pc' := 9) rfl (hb hby dj29m65_2) rfl (tlt hc2_7).1 (by decide) (by decide)) ?_
    have hv8 := hv0.trans (if_pos hc2_7)
    show OGets p e below _ (s₁.setTop (mkF m 9 #[.val (.int p0), .val (.int p1)] []))
    refine OGets.step (fun _ => XS.iloadN X0.here hx rfl (hb hby dj29m65_9) rfl) ?_
    show OGets p e below _ (s₁.setTop (mkF m 10 #[.val (.int p0), .val (.int p1)] [(.int p1)]))
    refine OGets.retI X0 hx hlk Bd.returns (hb hby dj29m65_10) (Nat.le_of_ble_eq_true rfl) (Nat.le_of_ble_eq_true rfl) ?_
    exact ⟨congrArg (fun z => some (Value.int z)) hv8.symm, rfl, e0⟩
  · refine OGets.step (fun _ => XS.icmpNo X0.here hx rfl (hb hby dj29m65_2) rfl (flt hc2_7).1) ?_
    have hv9 := hv0.trans (if_neg hc2_7)
    show OGets p e below _ (s₁.setTop (mkF m 5 #[.val (.int p0), .val (.int p1)] []))
    refine OGets.step (fun _ => XS.iloadN X0.here hx rfl (hb hby dj29m65_5) rfl) ?_
    show OGets p e below _ (s₁.setTop (mkF m 6 #[.val (.int p0), .val (.int p1)] [(.int p0)]))
    refine OGets.step (fun _ => XS.goto X0.here hx rfl (pc0 := 6) (pc' := 10) rfl (hb hby dj29m65_6) (by decide) (by decide)) ?_
    show OGets p e below _ (s₁.setTop (mkF m 10 #[.val (.int p0), .val (.int p1)] [(.int p0)]))
    refine OGets.retI X0 hx hlk Bd.returns (hb hby dj29m65_10) (Nat.le_of_ble_eq_true rfl) (Nat.le_of_ble_eq_true rfl) ?_
    exact ⟨congrArg (fun z => some (Value.int z)) hv9.symm, rfl, e0⟩
def f_mi (p0 : Int32) (p1 : Int32) : Int32 := (if p1 < p0 then p1 else p0)
theorem dj29m69_0 : decode jdk_29_method_69_code 0 = .ok (.iload_n 0, 1) := by decide +kernel
theorem dj29m69_1 : decode jdk_29_method_69_code 1 = .ok (.iload_n 1, 1) := by decide +kernel
theorem dj29m69_2 : decode jdk_29_method_69_code 2 = .ok (.if_icmp .gt 7, 3) := by decide +kernel
theorem dj29m69_9 : decode jdk_29_method_69_code 9 = .ok (.iload_n 1, 1) := by decide +kernel
theorem dj29m69_10 : decode jdk_29_method_69_code 10 = .ok (.ireturn, 1) := by decide +kernel
theorem dj29m69_5 : decode jdk_29_method_69_code 5 = .ok (.iload_n 0, 1) := by decide +kernel
theorem dj29m69_6 : decode jdk_29_method_69_code 6 = .ok (.goto 4, 3) := by decide +kernel
theorem ef_mi (m : MethodId) (x0 : Int32) (x1 : Int32) : entryFrame m #[(.int x0), (.int x1)] 2 = mkF m 0 #[.val (.int x0), .val (.int x1)] [] := by first | (simp [entryFrame, mkF, argsToLocals, Value.category]; done) | rfl
def Q_mi (Z : State) (p0 : Int32) (p1 : Int32) (h0 : Heap) (n0 : Nat) (v : Option Value) (h : Heap) (L : List Loc) : Prop := v = some (.int (f_mi p0 p1)) ∧ L = [] ∧ h = h0
set_option maxRecDepth 65536 in
set_option maxHeartbeats 40000000 in
theorem rm_mi (l : Launch) (Z : State) (a0 : Array Value) (hw : ∀ d ∈ tables_1, d.before a0 Z = true) (ws : List Jvm.Cond) (p0 : Int32) (p1 : Int32) (h0 : Heap) (n0 : Nat) (Z0 : n0 ≤ h0.size) :
    MetFree l (⟨"java/lang/Math", "min", "(II)I"⟩ : MethodName) (head1 (Jvm.Cond.code (⟨"java/lang/Math", "min", "(II)I"⟩ : MethodName) jdk_29_method_69_code 2 (some .int) :: ws) ({ frames := 0, cells := 0, slots := 0, locals := 0 } : Room)) (fun a_ U => a_ = #[(.int p0), (.int p1)] ∧ Z.Warmed39 U.vm ∧ U.heap = h0) (fun _ _ _ _ _ => True) (fun _ U o U' => ∃ v L, o = .returned v ∧ Q_mi Z p0 p1 h0 n0 v U'.heap L ∧ FrameEnd U o U' L ({ frames := 0, cells := 0, slots := 0, locals := 0 } : Room).cells ({ frames := 0, cells := 0, slots := 0, locals := 0 } : Room).slots) := by
  refine MetFree.of_bodySF (Jvm.Free.JP.mathPlain rfl (by decide +kernel)) hisR ?_
  intro p e s m args below meth c s₁ Bd hml0 hP hK
  obtain ⟨rfl, hZ, hh⟩ := hP
  have hx := Bd.exec
  have hby := Bd.bytes
  have hlk : meth.locks = false := Bd.notSynchronized
  have hml : c.maxLocals = 2 := hml0
  have hown : s.vm.findClass "java/lang/Math" = some m.cls := findClass_of_methodNamed Bd.named
  have hnm := (name_of_methodNamed Bd.named Bd.method).1
  have X0 : Stand p l e ({ frames := 0, cells := 0, slots := 0, locals := 0 } : Room) s m #[(.int p0), (.int p1)] below meth c s₁ [] 0 0 := Stand.of_body Bd
  have e0 : s₁.heap = h0 := by rw [← hh, Bd.state]; rfl
  have N0 := Fr.nil n0
  have hv0 : f_mi p0 p1 = (if p1 < p0 then p1 else p0) := rfl
  show OGets p e below (OLeaves s (Q_mi Z p0 p1 h0 n0 ) ({ frames := 0, cells := 0, slots := 0, locals := 0 } : Room).cells ({ frames := 0, cells := 0, slots := 0, locals := 0 } : Room).slots) _
  refine OGets.enter (ef_mi m p0 p1) ?_
  show OGets p e below _ (s₁.setTop (mkF m 0 #[.val (.int p0), .val (.int p1)] []))
  refine OGets.step (fun _ => XS.iloadN X0.here hx rfl (hb hby dj29m69_0) rfl) ?_
  show OGets p e below _ (s₁.setTop (mkF m 1 #[.val (.int p0), .val (.int p1)] [(.int p0)]))
  refine OGets.step (fun _ => XS.iloadN X0.here hx rfl (hb hby dj29m69_1) rfl) ?_
  show OGets p e below _ (s₁.setTop (mkF m 2 #[.val (.int p0), .val (.int p1)] [(.int p1), (.int p0)]))
  by_cases hc2_10 : p1 < p0
  · refine OGets.step (fun _ => XS.icmpYes X0.here hx rfl (pc0 := 2) (pc' := 9) rfl (hb hby dj29m69_2) rfl (tlt hc2_10).2.2.1 (by decide) (by decide)) ?_
    have hv11 := hv0.trans (if_pos hc2_10)
    show OGets p e below _ (s₁.setTop (mkF m 9 #[.val (.int p0), .val (.int p1)] []))
    refine OGets.step (fun _ => XS.iloadN X0.here hx rfl (hb hby dj29m69_9) rfl) ?_
    show OGets p e below _ (s₁.setTop (mkF m 10 #[.val (.int p0), .val (.int p1)] [(.int p1)]))
    refine OGets.retI X0 hx hlk Bd.returns (hb hby dj29m69_10) (Nat.le_of_ble_eq_true rfl) (Nat.le_of_ble_eq_true rfl) ?_
    exact ⟨congrArg (fun z => some (Value.int z)) hv11.symm, rfl, e0⟩
  · refine OGets.step (fun _ => XS.icmpNo X0.here hx rfl (hb hby dj29m69_2) rfl (flt hc2_10).2.2.1) ?_
    have hv12 := hv0.trans (if_neg hc2_10)
    show OGets p e below _ (s₁.setTop (mkF m 5 #[.val (.int p0), .val (.int p1)] []))
    refine OGets.step (fun _ => XS.iloadN X0.here hx rfl (hb hby dj29m69_5) rfl) ?_
    show OGets p e below _ (s₁.setTop (mkF m 6 #[.val (.int p0), .val (.int p1)] [(.int p0)]))
    refine OGets.step (fun _ => XS.goto X0.here hx rfl (pc0 := 6) (pc' := 10) rfl (hb hby dj29m69_6) (by decide) (by decide)) ?_
    show OGets p e below _ (s₁.setTop (mkF m 10 #[.val (.int p0), .val (.int p1)] [(.int p0)]))
    refine OGets.retI X0 hx hlk Bd.returns (hb hby dj29m69_10) (Nat.le_of_ble_eq_true rfl) (Nat.le_of_ble_eq_true rfl) ?_
    exact ⟨congrArg (fun z => some (Value.int z)) hv12.symm, rfl, e0⟩
theorem pn_1 : plainName "java/lang/String" = true := by first | (simp [plainName, overriddenIn]; done) | decide +kernel
theorem dj42m154_0 : decode jdk_42_method_154_code 0 = .ok (.getstatic 38, 3) := by decide +kernel
theorem dj42m154_3 : decode jdk_42_method_154_code 3 = .ok (.ifCond .eq 14, 3) := by decide +kernel
theorem dj42m154_6 : decode jdk_42_method_154_code 6 = .ok (.aload_n 0, 1) := by decide +kernel
theorem dj42m154_7 : decode jdk_42_method_154_code 7 = .ok (.getfield 15, 3) := by decide +kernel
theorem dj42m154_10 : decode jdk_42_method_154_code 10 = .ok (.ifCond .ne 7, 3) := by decide +kernel
theorem dj42m154_13 : decode jdk_42_method_154_code 13 = .ok (.iconst 1, 1) := by decide +kernel
theorem dj42m154_14 : decode jdk_42_method_154_code 14 = .ok (.goto 4, 3) := by decide +kernel
theorem dj42m154_18 : decode jdk_42_method_154_code 18 = .ok (.ireturn, 1) := by decide +kernel
theorem ef_isla (m : MethodId) (x0 : Addr) : entryFrame m #[(.ref x0)] 1 = mkF m 0 #[.val (.ref x0)] [] := by first | (simp [entryFrame, mkF, argsToLocals, Value.category]; done) | rfl
def Q_isla (Z : State) (a : Addr) (b : Addr) (G : Int32) (h0 : Heap) (n0 : Nat) (F : List (Addr × OObj)) (v : Option Value) (h : Heap) (L : List Loc) : Prop := v = some (.int (1 : Int32)) ∧ L = [] ∧ h = h0
set_option maxRecDepth 65536 in
set_option maxHeartbeats 40000000 in
theorem rm_isla (l : Launch) (Z : State) (a0 : Array Value) (hw : ∀ d ∈ tables_1, d.before a0 Z = true) (ws : List Jvm.Cond) (a : Addr) (b : Addr) (G : Int32) (h0 : Heap) (n0 : Nat) (F : List (Addr × OObj)) (Z0 : n0 ≤ h0.size) (S0 : Sta Z h0 "java/lang/String" "COMPACT_STRINGS" "Z" (.int G)) (hG : ¬ G = (0 : Int32)) (V0 : OView Z n0 h0 (((a, Sum.inl ("java/lang/String", ns_String, [(.ref b), (.int (0 : Int32))])) : Addr × OObj) :: ((b, Sum.inr (.byte, [(.int (45 : Int32)), (.int (46 : Int32)), (.int (95 : Int32)), (.int (126 : Int32))])) : Addr × OObj) :: F)) :
    MetFree l (⟨"java/lang/String", "isLatin1", "()Z"⟩ : MethodName) (head1 (Jvm.Cond.code (⟨"java/lang/String", "isLatin1", "()Z"⟩ : MethodName) jdk_42_method_154_code 1 (some .boolean) :: ws) ({ frames := 0, cells := 0, slots := 0, locals := 0 } : Room)) (fun a_ U => a_ = #[(.ref a)] ∧ Z.Warmed39 U.vm ∧ U.heap = h0) (fun _ _ _ _ _ => True) (fun _ U o U' => ∃ v L, o = .returned v ∧ Q_isla Z a b G h0 n0 F v U'.heap L ∧ FrameEnd U o U' L ({ frames := 0, cells := 0, slots := 0, locals := 0 } : Room).cells ({ frames := 0, cells := 0, slots := 0, locals := 0 } : Room).slots) := by
  refine MetFree.of_bodySF (plainFor_of_name pn_1) hisR ?_
  intro p e s m args below meth c s₁ Bd hml0 hP hK
  obtain ⟨rfl, hZ, hh⟩ := hP
  have hx := Bd.exec
  have hby := Bd.bytes
  have hlk : meth.locks = false := Bd.notSynchronized
  have hml : c.maxLocals = 1 := hml0
  have hown : s.vm.findClass "java/lang/String" = some m.cls := findClass_of_methodNamed Bd.named
  have hnm := (name_of_methodNamed Bd.named Bd.method).1
  have X0 : Stand p l e ({ frames := 0, cells := 0, slots := 0, locals := 0 } : Room) s m #[(.ref a)] below meth c s₁ [] 0 0 := Stand.of_body Bd
  have e0 : s₁.heap = h0 := by rw [← hh, Bd.state]; rfl
  have N0 := Fr.nil n0
  show OGets p e below (OLeaves s (Q_isla Z a b G h0 n0 F ) ({ frames := 0, cells := 0, slots := 0, locals := 0 } : Room).cells ({ frames := 0, cells := 0, slots := 0, locals := 0 } : Room).slots) _
  refine OGets.enter (ef_isla m a) ?_
  show OGets p e below _ (s₁.setTop (mkF m 0 #[.val (.ref a)] []))
  obtain ⟨T13, X13, e13, st13⟩ := getS2 X0 hx hZ hown (host := "") (Or.inl (hw _ (List.mem_of_getElem? (i := 28) rfl))) Via.refl e0 S0 (g := (mkF m 0 #[.val (.ref a)] [])) rfl (hb hby dj42m154_0)
  refine OGets.step st13 ?_
  show OGets p e below _ (T13.setTop (mkF m 3 #[.val (.ref a)] [(.int G)]))
  refine OGets.step (fun _ => XS.ifNo X13.here hx rfl (hb hby dj42m154_3) rfl ((if0 _ _).trans (feq (hG : ¬ (G = (0 : Int32)))).1)) ?_
  show OGets p e below _ (T13.setTop (mkF m 6 #[.val (.ref a)] []))
  refine OGets.step (fun _ => XS.aloadN X13.here hx rfl (hb hby dj42m154_6) rfl rfl) ?_
  show OGets p e below _ (T13.setTop (mkF m 7 #[.val (.ref a)] [(.ref a)]))
  obtain ⟨T15, X15, e15, st15⟩ := getF X13 hx hZ hown (host := "") (Or.inl (hw _ (List.mem_of_getElem? (i := 29) rfl))) Via.refl e13 (V0.fld 0 rfl 1 rfl rfl) (g := (mkF m 7 #[.val (.ref a)] [(.ref a)])) rfl rfl (hb hby dj42m154_7)
  refine OGets.step st15 ?_
  show OGets p e below _ (T15.setTop (mkF m 10 #[.val (.ref a)] [(.int (0 : Int32))]))
  refine OGets.step (fun _ => XS.ifNo X15.here hx rfl (hb hby dj42m154_10) rfl ((if0 _ _).trans (teq (by decide : (0 : Int32) = (0 : Int32))).2)) ?_
  show OGets p e below _ (T15.setTop (mkF m 13 #[.val (.ref a)] []))
  refine OGets.step (fun _ => XS.iconst X15.here hx rfl (hb hby dj42m154_13)) ?_
  show OGets p e below _ (T15.setTop (mkF m 14 #[.val (.ref a)] [(.int (1 : Int32))]))
  refine OGets.step (fun _ => XS.goto X15.here hx rfl (pc0 := 14) (pc' := 18) rfl (hb hby dj42m154_14) (by decide) (by decide)) ?_
  show OGets p e below _ (T15.setTop (mkF m 18 #[.val (.ref a)] [(.int (1 : Int32))]))
  refine OGets.retN X15 hx hlk (t := .boolean) Bd.returns (by simp) (hb hby dj42m154_18) (Nat.le_of_ble_eq_true rfl) (Nat.le_of_ble_eq_true rfl) ?_
  exact ⟨congrArg (fun z => some (Value.int z)) (show _ = (1 : Int32) from by decide), rfl, e15⟩
theorem dj42m152_0 : decode jdk_42_method_152_code 0 = .ok (.getstatic 38, 3) := by decide +kernel
theorem dj42m152_3 : decode jdk_42_method_152_code 3 = .ok (.ifCond .eq 10, 3) := by decide +kernel
theorem dj42m152_6 : decode jdk_42_method_152_code 6 = .ok (.aload_n 0, 1) := by decide +kernel
theorem dj42m152_7 : decode jdk_42_method_152_code 7 = .ok (.getfield 15, 3) := by decide +kernel
theorem dj42m152_10 : decode jdk_42_method_152_code 10 = .ok (.goto 4, 3) := by decide +kernel
theorem dj42m152_14 : decode jdk_42_method_152_code 14 = .ok (.ireturn, 1) := by decide +kernel
theorem ef_coda (m : MethodId) (x0 : Addr) : entryFrame m #[(.ref x0)] 1 = mkF m 0 #[.val (.ref x0)] [] := by first | (simp [entryFrame, mkF, argsToLocals, Value.category]; done) | rfl
def Q_coda (Z : State) (a : Addr) (b : Addr) (G : Int32) (h0 : Heap) (n0 : Nat) (F : List (Addr × OObj)) (v : Option Value) (h : Heap) (L : List Loc) : Prop := v = some (.int (0 : Int32)) ∧ L = [] ∧ h = h0
set_option maxRecDepth 65536 in
set_option maxHeartbeats 40000000 in
theorem rm_coda (l : Launch) (Z : State) (a0 : Array Value) (hw : ∀ d ∈ tables_1, d.before a0 Z = true) (ws : List Jvm.Cond) (a : Addr) (b : Addr) (G : Int32) (h0 : Heap) (n0 : Nat) (F : List (Addr × OObj)) (Z0 : n0 ≤ h0.size) (S0 : Sta Z h0 "java/lang/String" "COMPACT_STRINGS" "Z" (.int G)) (hG : ¬ G = (0 : Int32)) (V0 : OView Z n0 h0 (((a, Sum.inl ("java/lang/String", ns_String, [(.ref b), (.int (0 : Int32))])) : Addr × OObj) :: ((b, Sum.inr (.byte, [(.int (45 : Int32)), (.int (46 : Int32)), (.int (95 : Int32)), (.int (126 : Int32))])) : Addr × OObj) :: F)) :
    MetFree l (⟨"java/lang/String", "coder", "()B"⟩ : MethodName) (head1 (Jvm.Cond.code (⟨"java/lang/String", "coder", "()B"⟩ : MethodName) jdk_42_method_152_code 1 (some .byte) :: ws) ({ frames := 0, cells := 0, slots := 0, locals := 0 } : Room)) (fun a_ U => a_ = #[(.ref a)] ∧ Z.Warmed39 U.vm ∧ U.heap = h0) (fun _ _ _ _ _ => True) (fun _ U o U' => ∃ v L, o = .returned v ∧ Q_coda Z a b G h0 n0 F v U'.heap L ∧ FrameEnd U o U' L ({ frames := 0, cells := 0, slots := 0, locals := 0 } : Room).cells ({ frames := 0, cells := 0, slots := 0, locals := 0 } : Room).slots) := by
  refine MetFree.of_bodySF (plainFor_of_name pn_1) hisR ?_
  intro p e s m args below meth c s₁ Bd hml0 hP hK
  obtain ⟨rfl, hZ, hh⟩ := hP
  have hx := Bd.exec
  have hby := Bd.bytes
  have hlk : meth.locks = false := Bd.notSynchronized
  have hml : c.maxLocals = 1 := hml0
  have hown : s.vm.findClass "java/lang/String" = some m.cls := findClass_of_methodNamed Bd.named
  have hnm := (name_of_methodNamed Bd.named Bd.method).1
  have X0 : Stand p l e ({ frames := 0, cells := 0, slots := 0, locals := 0 } : Room) s m #[(.ref a)] below meth c s₁ [] 0 0 := Stand.of_body Bd
  have e0 : s₁.heap = h0 := by rw [← hh, Bd.state]; rfl
  have N0 := Fr.nil n0
  show OGets p e below (OLeaves s (Q_coda Z a b G h0 n0 F ) ({ frames := 0, cells := 0, slots := 0, locals := 0 } : Room).cells ({ frames := 0, cells := 0, slots := 0, locals := 0 } : Room).slots) _
  refine OGets.enter (ef_coda m a) ?_
  show OGets p e below _ (s₁.setTop (mkF m 0 #[.val (.ref a)] []))
  obtain ⟨T17, X17, e17, st17⟩ := getS2 X0 hx hZ hown (host := "") (Or.inl (hw _ (List.mem_of_getElem? (i := 28) rfl))) Via.refl e0 S0 (g := (mkF m 0 #[.val (.ref a)] [])) rfl (hb hby dj42m152_0)
  refine OGets.step st17 ?_
  show OGets p e below _ (T17.setTop (mkF m 3 #[.val (.ref a)] [(.int G)]))
  refine OGets.step (fun _ => XS.ifNo X17.here hx rfl (hb hby dj42m152_3) rfl ((if0 _ _).trans (feq (hG : ¬ (G = (0 : Int32)))).1)) ?_
  show OGets p e below _ (T17.setTop (mkF m 6 #[.val (.ref a)] []))
  refine OGets.step (fun _ => XS.aloadN X17.here hx rfl (hb hby dj42m152_6) rfl rfl) ?_
  show OGets p e below _ (T17.setTop (mkF m 7 #[.val (.ref a)] [(.ref a)]))
  obtain ⟨T19, X19, e19, st19⟩ := getF X17 hx hZ hown (host := "") (Or.inl (hw _ (List.mem_of_getElem? (i := 29) rfl))) Via.refl e17 (V0.fld 0 rfl 1 rfl rfl) (g := (mkF m 7 #[.val (.ref a)] [(.ref a)])) rfl rfl (hb hby dj42m152_7)
  refine OGets.step st19 ?_
  show OGets p e below _ (T19.setTop (mkF m 10 #[.val (.ref a)] [(.int (0 : Int32))]))
  refine OGets.step (fun _ => XS.goto X19.here hx rfl (pc0 := 10) (pc' := 14) rfl (hb hby dj42m152_10) (by decide) (by decide)) ?_
  show OGets p e below _ (T19.setTop (mkF m 14 #[.val (.ref a)] [(.int (0 : Int32))]))
  refine OGets.retN X19 hx hlk (t := .byte) Bd.returns (by simp) (hb hby dj42m152_14) (Nat.le_of_ble_eq_true rfl) (Nat.le_of_ble_eq_true rfl) ?_
  exact ⟨congrArg (fun z => some (Value.int z)) (show _ = (0 : Int32) from by decide), rfl, e19⟩
theorem dj42m54_0 : decode jdk_42_method_54_code 0 = .ok (.aload_n 0, 1) := by decide +kernel
theorem dj42m54_1 : decode jdk_42_method_54_code 1 = .ok (.getfield 9, 3) := by decide +kernel
theorem dj42m54_4 : decode jdk_42_method_54_code 4 = .ok (.arraylength, 1) := by decide +kernel
theorem dj42m54_5 : decode jdk_42_method_54_code 5 = .ok (.aload_n 0, 1) := by decide +kernel
theorem dj42m54_6 : decode jdk_42_method_54_code 6 = .ok (.invokevirtual 335, 3) := by decide +kernel
theorem pd_2 : parseMethodDescriptor "()B" = some ⟨[], some .byte⟩ := by decide +kernel
theorem dj42m54_9 : decode jdk_42_method_54_code 9 = .ok (.ishr, 1) := by decide +kernel
theorem dj42m54_10 : decode jdk_42_method_54_code 10 = .ok (.ireturn, 1) := by decide +kernel
theorem ef_lena (m : MethodId) (x0 : Addr) : entryFrame m #[(.ref x0)] 1 = mkF m 0 #[.val (.ref x0)] [] := by first | (simp [entryFrame, mkF, argsToLocals, Value.category]; done) | rfl
def Q_lena (Z : State) (a : Addr) (b : Addr) (G : Int32) (h0 : Heap) (n0 : Nat) (F : List (Addr × OObj)) (v : Option Value) (h : Heap) (L : List Loc) : Prop := v = some (.int (4 : Int32)) ∧ L = [] ∧ h = h0
set_option maxRecDepth 65536 in
set_option maxHeartbeats 40000000 in
theorem rm_lena (l : Launch) (Z : State) (a0 : Array Value) (hw : ∀ d ∈ tables_1, d.before a0 Z = true) (ws : List Jvm.Cond) (a : Addr) (b : Addr) (G : Int32) (h0 : Heap) (n0 : Nat) (F : List (Addr × OObj)) (Z0 : n0 ≤ h0.size) (S0 : Sta Z h0 "java/lang/String" "COMPACT_STRINGS" "Z" (.int G)) (hG : ¬ G = (0 : Int32)) (V0 : OView Z n0 h0 (((a, Sum.inl ("java/lang/String", ns_String, [(.ref b), (.int (0 : Int32))])) : Addr × OObj) :: ((b, Sum.inr (.byte, [(.int (45 : Int32)), (.int (46 : Int32)), (.int (95 : Int32)), (.int (126 : Int32))])) : Addr × OObj) :: F)) :
    MetFree l (⟨"java/lang/String", "length", "()I"⟩ : MethodName) (head1 (Jvm.Cond.code (⟨"java/lang/String", "length", "()I"⟩ : MethodName) jdk_42_method_54_code 1 (some .int) :: ws) ({ frames := 1, cells := 0, slots := 0, locals := 13 } : Room)) (fun a_ U => a_ = #[(.ref a)] ∧ Z.Warmed39 U.vm ∧ U.heap = h0) (fun _ _ _ _ _ => True) (fun _ U o U' => ∃ v L, o = .returned v ∧ Q_lena Z a b G h0 n0 F v U'.heap L ∧ FrameEnd U o U' L ({ frames := 1, cells := 0, slots := 0, locals := 13 } : Room).cells ({ frames := 1, cells := 0, slots := 0, locals := 13 } : Room).slots) := by
  refine MetFree.of_bodySF (plainFor_of_name pn_1) hisR ?_
  intro p e s m args below meth c s₁ Bd hml0 hP hK
  obtain ⟨rfl, hZ, hh⟩ := hP
  have hx := Bd.exec
  have hby := Bd.bytes
  have hlk : meth.locks = false := Bd.notSynchronized
  have hml : c.maxLocals = 1 := hml0
  have hown : s.vm.findClass "java/lang/String" = some m.cls := findClass_of_methodNamed Bd.named
  have hnm := (name_of_methodNamed Bd.named Bd.method).1
  have X0 : Stand p l e ({ frames := 1, cells := 0, slots := 0, locals := 13 } : Room) s m #[(.ref a)] below meth c s₁ [] 0 0 := Stand.of_body Bd
  have e0 : s₁.heap = h0 := by rw [← hh, Bd.state]; rfl
  have N0 := Fr.nil n0
  show OGets p e below (OLeaves s (Q_lena Z a b G h0 n0 F ) ({ frames := 1, cells := 0, slots := 0, locals := 13 } : Room).cells ({ frames := 1, cells := 0, slots := 0, locals := 13 } : Room).slots) _
  refine OGets.enter (ef_lena m a) ?_
  show OGets p e below _ (s₁.setTop (mkF m 0 #[.val (.ref a)] []))
  refine OGets.step (fun _ => XS.aloadN X0.here hx rfl (hb hby dj42m54_0) rfl rfl) ?_
  show OGets p e below _ (s₁.setTop (mkF m 1 #[.val (.ref a)] [(.ref a)]))
  obtain ⟨T20, X20, e20, st20⟩ := getF X0 hx hZ hown (host := "") (Or.inl (hw _ (List.mem_of_getElem? (i := 30) rfl))) Via.refl e0 (V0.fld 0 rfl 0 rfl rfl) (g := (mkF m 1 #[.val (.ref a)] [(.ref a)])) rfl rfl (hb hby dj42m54_1)
  refine OGets.step st20 ?_
  show OGets p e below _ (T20.setTop (mkF m 4 #[.val (.ref a)] [(.ref b)]))
  obtain ⟨cl21, Ar21, S21⟩ := V0.arr 1 rfl
  have ln21 : cl21.slots.size.toInt32 = (4 : Int32) := by rw [own_len S21]; rfl
  refine OGets.step (U' := T20.setTop (mkF m 5 #[.val (.ref a)] [(.int (4 : Int32))])) (fun t kt => ?_) ?_
  · refine X20.arraylength hx (by rw [e20]; exact Ar21.1) (State.isArrayOf_alike hZ.alike Ar21.2.1) (g := (mkF m 4 #[.val (.ref a)] [(.ref b)])) rfl rfl (hb hby dj42m54_4) _ ?_
    rw [ln21]; exact kt
  show OGets p e below _ (T20.setTop (mkF m 5 #[.val (.ref a)] [(.int (4 : Int32))]))
  refine OGets.step (fun _ => XS.aloadN X20.here hx rfl (hb hby dj42m54_5) rfl rfl) ?_
  show OGets p e below _ (T20.setTop (mkF m 6 #[.val (.ref a)] [(.ref a), (.int (4 : Int32))]))
  have V22_1 := V0.bring 1 rfl
  have V22_1' : OView Z _ h0 (((b, Sum.inr (.byte, [(.int (45 : Int32)), (.int (46 : Int32)), (.int (95 : Int32)), (.int (126 : Int32))])) : Addr × OObj) :: ((a, Sum.inl ("java/lang/String", ns_String, [(.ref b), (.int (0 : Int32))])) : Addr × OObj) :: F) := V22_1
  have V22_1 := V22_1'.bring 1 rfl
  have V22_1' : OView Z _ h0 (((a, Sum.inl ("java/lang/String", ns_String, [(.ref b), (.int (0 : Int32))])) : Addr × OObj) :: ((b, Sum.inr (.byte, [(.int (45 : Int32)), (.int (46 : Int32)), (.int (95 : Int32)), (.int (126 : Int32))])) : Addr × OObj) :: F) := V22_1
  obtain ⟨cq22, kq22, q22a, q22b, q22c⟩ := isOf hZ e20 (V22_1'.exa 0 rfl)
  obtain ⟨_, _, ⟨T22, L22, k22, n22⟩, -, X22, ⟨Lc22, hQ22, l22, y22, z22⟩, st22⟩ := X20.virtualBack hx (y := (⟨"java/lang/String", "coder", "()B"⟩ : MethodName)) (z := (⟨"java/lang/String", "coder", "()B"⟩ : MethodName)) hown (mvT hZ (hw _ (List.mem_of_getElem? (i := 36) rfl))) (mvT hZ (hw _ (List.mem_of_getElem? (i := 37) rfl))) (notFace_of_selects (args := #[]) (mvT hZ (hw _ (List.mem_of_getElem? (i := 39) rfl)))) (mvT hZ (hw _ (List.mem_of_getElem? (i := 39) rfl))) (mvT hZ (hw _ (List.mem_of_getElem? (i := 38) rfl))) (by decide) (backOf (W := 1) (rm_coda l Z a0 hw [] a b G h0 n0 (F) Z0 S0 hG V22_1') hZ (hw _ (List.mem_of_getElem? (i := 40) rfl)) (hw _ (List.mem_of_getElem? (i := 6) rfl)) (by decide) (by decide)) q22a q22c (g := (mkF m 6 #[.val (.ref a)] [(.ref a), (.int (4 : Int32))])) rfl (by rw [hml]; rfl) (Steps.refl _) (argsL := []) (rest := [(.int (4 : Int32))]) (lenOf pd_2 rfl) rfl (by show 2 * 0 + _ ≤ _; exact Nat.le_of_eq rfl) (hb hby dj42m54_6) (fun _ _ => ⟨rfl, e20, Nat.le_of_ble_eq_true rfl, Nat.le_of_ble_eq_true rfl⟩)
  dsimp only [Pt.U, Pt.locs, Pt.cells, Pt.slots] at X22 l22 y22 z22 st22 hQ22
  rw [l22, y22, z22] at X22
  obtain ⟨rfl, rfl, e22⟩ := hQ22
  have X22 : Stand p l e _ s m #[(.ref a)] below meth c T22 [] 0 0 := X22
  refine OGets.after st22 ?_
  show OGets p e below _ (T22.setTop (mkF m 9 #[.val (.ref a)] [(.int (0 : Int32)), (.int (4 : Int32))]))
  refine OGets.step (fun _ => XS.ishr X22.here hx rfl (hb hby dj42m54_9) rfl) ?_
  show OGets p e below _ (T22.setTop (mkF m 10 #[.val (.ref a)] [(.int ((4 : Int32) >>> ((0 : Int32) &&& 31)))]))
  refine OGets.retI X22 hx hlk Bd.returns (hb hby dj42m54_10) (Nat.le_of_ble_eq_true rfl) (Nat.le_of_ble_eq_true rfl) ?_
  exact ⟨congrArg (fun z => some (Value.int z)) (show _ = (4 : Int32) from by decide), rfl, e22⟩
def f_chra (p0 : Int32) : Int32 := (if (45 : Int32) = (p0.toInt8.toInt32) then (0 : Int32) else (if (46 : Int32) = (p0.toInt8.toInt32) then (1 : Int32) else (if (95 : Int32) = (p0.toInt8.toInt32) then (2 : Int32) else (if (126 : Int32) = (p0.toInt8.toInt32) then (3 : Int32) else (-1 : Int32)))))
theorem dj43m23_0 : decode jdk_43_method_23_code 0 = .ok (.iload_n 1, 1) := by decide +kernel
theorem dj43m23_1 : decode jdk_43_method_23_code 1 = .ok (.i2b, 1) := by decide +kernel
theorem dj43m23_2 : decode jdk_43_method_23_code 2 = .ok (.istore 4, 2) := by decide +kernel
theorem dj43m23_4 : decode jdk_43_method_23_code 4 = .ok (.iload_n 2, 1) := by decide +kernel
theorem dj43m23_5 : decode jdk_43_method_23_code 5 = .ok (.istore 5, 2) := by decide +kernel
theorem dj43m23_7 : decode jdk_43_method_23_code 7 = .ok (.iload 5, 2) := by decide +kernel
theorem dj43m23_9 : decode jdk_43_method_23_code 9 = .ok (.iload_n 3, 1) := by decide +kernel
theorem dj43m23_10 : decode jdk_43_method_23_code 10 = .ok (.if_icmp .ge 21, 3) := by decide +kernel
theorem dj43m23_13 : decode jdk_43_method_23_code 13 = .ok (.aload_n 0, 1) := by decide +kernel
theorem dj43m23_14 : decode jdk_43_method_23_code 14 = .ok (.iload 5, 2) := by decide +kernel
theorem dj43m23_16 : decode jdk_43_method_23_code 16 = .ok (.baload, 1) := by decide +kernel
theorem dj43m23_17 : decode jdk_43_method_23_code 17 = .ok (.iload 4, 2) := by decide +kernel
theorem dj43m23_19 : decode jdk_43_method_23_code 19 = .ok (.if_icmp .ne 6, 3) := by decide +kernel
theorem dj43m23_22 : decode jdk_43_method_23_code 22 = .ok (.iload 5, 2) := by decide +kernel
theorem dj43m23_24 : decode jdk_43_method_23_code 24 = .ok (.ireturn, 1) := by decide +kernel
theorem dj43m23_25 : decode jdk_43_method_23_code 25 = .ok (.iinc 5 1, 3) := by decide +kernel
theorem dj43m23_28 : decode jdk_43_method_23_code 28 = .ok (.goto (-21), 3) := by decide +kernel
theorem dj43m23_31 : decode jdk_43_method_23_code 31 = .ok (.iconst (-1), 1) := by decide +kernel
theorem dj43m23_32 : decode jdk_43_method_23_code 32 = .ok (.ireturn, 1) := by decide +kernel
theorem ef_chra (m : MethodId) (x0 : Addr) (x1 : Int32) (x2 : Int32) (x3 : Int32) : entryFrame m #[(.ref x0), (.int x1), (.int x2), (.int x3)] 6 = mkF m 0 #[.val (.ref x0), .val (.int x1), .val (.int x2), .val (.int x3), .unset, .unset] [] := by first | (simp [entryFrame, mkF, argsToLocals, Value.category]; done) | rfl
def Q_chra (Z : State) (b : Addr) (p0 : Int32) (h0 : Heap) (n0 : Nat) (F : List (Addr × OObj)) (v : Option Value) (h : Heap) (L : List Loc) : Prop := v = some (.int (f_chra p0)) ∧ L = [] ∧ h = h0
set_option maxRecDepth 65536 in
set_option maxHeartbeats 40000000 in
theorem rm_chra (l : Launch) (Z : State) (a0 : Array Value) (hw : ∀ d ∈ tables_1, d.before a0 Z = true) (ws : List Jvm.Cond) (b : Addr) (p0 : Int32) (h0 : Heap) (n0 : Nat) (F : List (Addr × OObj)) (Z0 : n0 ≤ h0.size) (V0 : OView Z n0 h0 (((b, Sum.inr (.byte, [(.int (45 : Int32)), (.int (46 : Int32)), (.int (95 : Int32)), (.int (126 : Int32))])) : Addr × OObj) :: F)) :
    MetFree l (⟨"java/lang/StringLatin1", "indexOfChar", "([BIII)I"⟩ : MethodName) (head1 (Jvm.Cond.code (⟨"java/lang/StringLatin1", "indexOfChar", "([BIII)I"⟩ : MethodName) jdk_43_method_23_code 6 (some .int) :: ws) ({ frames := 0, cells := 0, slots := 0, locals := 0 } : Room)) (fun a_ U => a_ = #[(.ref b), (.int p0), (.int (0 : Int32)), (.int (4 : Int32))] ∧ Z.Warmed39 U.vm ∧ U.heap = h0) (fun _ _ _ _ _ => True) (fun _ U o U' => ∃ v L, o = .returned v ∧ Q_chra Z b p0 h0 n0 F v U'.heap L ∧ FrameEnd U o U' L ({ frames := 0, cells := 0, slots := 0, locals := 0 } : Room).cells ({ frames := 0, cells := 0, slots := 0, locals := 0 } : Room).slots) := by
  refine MetFree.of_bodySF (plainFor_of_name pn_0) hisR ?_
  intro p e s m args below meth c s₁ Bd hml0 hP hK
  obtain ⟨rfl, hZ, hh⟩ := hP
  have hx := Bd.exec
  have hby := Bd.bytes
  have hlk : meth.locks = false := Bd.notSynchronized
  have hml : c.maxLocals = 6 := hml0
  have hown : s.vm.findClass "java/lang/StringLatin1" = some m.cls := findClass_of_methodNamed Bd.named
  have hnm := (name_of_methodNamed Bd.named Bd.method).1
  have X0 : Stand p l e ({ frames := 0, cells := 0, slots := 0, locals := 0 } : Room) s m #[(.ref b), (.int p0), (.int (0 : Int32)), (.int (4 : Int32))] below meth c s₁ [] 0 0 := Stand.of_body Bd
  have e0 : s₁.heap = h0 := by rw [← hh, Bd.state]; rfl
  have N0 := Fr.nil n0
  have hv0 : f_chra p0 = (if (45 : Int32) = (p0.toInt8.toInt32) then (0 : Int32) else (if (46 : Int32) = (p0.toInt8.toInt32) then (1 : Int32) else (if (95 : Int32) = (p0.toInt8.toInt32) then (2 : Int32) else (if (126 : Int32) = (p0.toInt8.toInt32) then (3 : Int32) else (-1 : Int32))))) := rfl
  show OGets p e below (OLeaves s (Q_chra Z b p0 h0 n0 F ) ({ frames := 0, cells := 0, slots := 0, locals := 0 } : Room).cells ({ frames := 0, cells := 0, slots := 0, locals := 0 } : Room).slots) _
  refine OGets.enter (ef_chra m b p0 (0 : Int32) (4 : Int32)) ?_
  show OGets p e below _ (s₁.setTop (mkF m 0 #[.val (.ref b), .val (.int p0), .val (.int (0 : Int32)), .val (.int (4 : Int32)), .unset, .unset] []))
  refine OGets.step (fun _ => XS.iloadN X0.here hx rfl (hb hby dj43m23_0) rfl) ?_
  show OGets p e below _ (s₁.setTop (mkF m 1 #[.val (.ref b), .val (.int p0), .val (.int (0 : Int32)), .val (.int (4 : Int32)), .unset, .unset] [(.int p0)]))
  refine OGets.step (fun _ => XS.i2b X0.here hx rfl (hb hby dj43m23_1) rfl) ?_
  show OGets p e below _ (s₁.setTop (mkF m 2 #[.val (.ref b), .val (.int p0), .val (.int (0 : Int32)), .val (.int (4 : Int32)), .unset, .unset] [(.int (p0.toInt8.toInt32))]))
  refine OGets.step (fun _ => XS.istore X0.here hx rfl (hb hby dj43m23_2) rfl (l' := #[.val (.ref b), .val (.int p0), .val (.int (0 : Int32)), .val (.int (4 : Int32)), .val (.int (p0.toInt8.toInt32)), .unset]) rfl) ?_
  show OGets p e below _ (s₁.setTop (mkF m 4 #[.val (.ref b), .val (.int p0), .val (.int (0 : Int32)), .val (.int (4 : Int32)), .val (.int (p0.toInt8.toInt32)), .unset] []))
  refine OGets.step (fun _ => XS.iloadN X0.here hx rfl (hb hby dj43m23_4) rfl) ?_
  show OGets p e below _ (s₁.setTop (mkF m 5 #[.val (.ref b), .val (.int p0), .val (.int (0 : Int32)), .val (.int (4 : Int32)), .val (.int (p0.toInt8.toInt32)), .unset] [(.int (0 : Int32))]))
  refine OGets.step (fun _ => XS.istore X0.here hx rfl (hb hby dj43m23_5) rfl (l' := #[.val (.ref b), .val (.int p0), .val (.int (0 : Int32)), .val (.int (4 : Int32)), .val (.int (p0.toInt8.toInt32)), .val (.int (0 : Int32))]) rfl) ?_
  show OGets p e below _ (s₁.setTop (mkF m 7 #[.val (.ref b), .val (.int p0), .val (.int (0 : Int32)), .val (.int (4 : Int32)), .val (.int (p0.toInt8.toInt32)), .val (.int (0 : Int32))] []))
  refine OGets.step (fun _ => XS.iload X0.here hx rfl (hb hby dj43m23_7) rfl) ?_
  show OGets p e below _ (s₁.setTop (mkF m 9 #[.val (.ref b), .val (.int p0), .val (.int (0 : Int32)), .val (.int (4 : Int32)), .val (.int (p0.toInt8.toInt32)), .val (.int (0 : Int32))] [(.int (0 : Int32))]))
  refine OGets.step (fun _ => XS.iloadN X0.here hx rfl (hb hby dj43m23_9) rfl) ?_
  show OGets p e below _ (s₁.setTop (mkF m 10 #[.val (.ref b), .val (.int p0), .val (.int (0 : Int32)), .val (.int (4 : Int32)), .val (.int (p0.toInt8.toInt32)), .val (.int (0 : Int32))] [(.int (4 : Int32)), (.int (0 : Int32))]))
  refine OGets.step (fun _ => XS.icmpNo X0.here hx rfl (hb hby dj43m23_10) rfl (tlt (by decide : (0 : Int32) < (4 : Int32))).2.1) ?_
  show OGets p e below _ (s₁.setTop (mkF m 13 #[.val (.ref b), .val (.int p0), .val (.int (0 : Int32)), .val (.int (4 : Int32)), .val (.int (p0.toInt8.toInt32)), .val (.int (0 : Int32))] []))
  refine OGets.step (fun _ => XS.aloadN X0.here hx rfl (hb hby dj43m23_13) rfl rfl) ?_
  show OGets p e below _ (s₁.setTop (mkF m 14 #[.val (.ref b), .val (.int p0), .val (.int (0 : Int32)), .val (.int (4 : Int32)), .val (.int (p0.toInt8.toInt32)), .val (.int (0 : Int32))] [(.ref b)]))
  refine OGets.step (fun _ => XS.iload X0.here hx rfl (hb hby dj43m23_14) rfl) ?_
  show OGets p e below _ (s₁.setTop (mkF m 16 #[.val (.ref b), .val (.int p0), .val (.int (0 : Int32)), .val (.int (4 : Int32)), .val (.int (p0.toInt8.toInt32)), .val (.int (0 : Int32))] [(.int (0 : Int32)), (.ref b)]))
  obtain ⟨cl24, Ar24, S24⟩ := V0.arr 0 rfl
  refine OGets.step (fun _ => X0.baloadBytes hx (j := (0 : Int32)) (v := (.int (45 : Int32))) (by rw [e0]; exact Ar24.1) (State.isArrayOf_alike hZ.alike Ar24.2.1) Ar24.2.2 (own_inb S24 0 (by decide) (by decide)) (own_get S24 0 (by decide) rfl) (g := (mkF m 16 #[.val (.ref b), .val (.int p0), .val (.int (0 : Int32)), .val (.int (4 : Int32)), .val (.int (p0.toInt8.toInt32)), .val (.int (0 : Int32))] [(.int (0 : Int32)), (.ref b)])) rfl rfl (hb hby dj43m23_16) _) ?_
  show OGets p e below _ (s₁.setTop (mkF m 17 #[.val (.ref b), .val (.int p0), .val (.int (0 : Int32)), .val (.int (4 : Int32)), .val (.int (p0.toInt8.toInt32)), .val (.int (0 : Int32))] [(.int (45 : Int32))]))
  refine OGets.step (fun _ => XS.iload X0.here hx rfl (hb hby dj43m23_17) rfl) ?_
  show OGets p e below _ (s₁.setTop (mkF m 19 #[.val (.ref b), .val (.int p0), .val (.int (0 : Int32)), .val (.int (4 : Int32)), .val (.int (p0.toInt8.toInt32)), .val (.int (0 : Int32))] [(.int (p0.toInt8.toInt32)), (.int (45 : Int32))]))
  by_cases hc19_25 : (45 : Int32) = (p0.toInt8.toInt32)
  · refine OGets.step (fun _ => XS.icmpNo X0.here hx rfl (hb hby dj43m23_19) rfl (teq hc19_25).2) ?_
    have hv26 := hv0.trans (if_pos hc19_25)
    show OGets p e below _ (s₁.setTop (mkF m 22 #[.val (.ref b), .val (.int p0), .val (.int (0 : Int32)), .val (.int (4 : Int32)), .val (.int (p0.toInt8.toInt32)), .val (.int (0 : Int32))] []))
    refine OGets.step (fun _ => XS.iload X0.here hx rfl (hb hby dj43m23_22) rfl) ?_
    show OGets p e below _ (s₁.setTop (mkF m 24 #[.val (.ref b), .val (.int p0), .val (.int (0 : Int32)), .val (.int (4 : Int32)), .val (.int (p0.toInt8.toInt32)), .val (.int (0 : Int32))] [(.int (0 : Int32))]))
    refine OGets.retI X0 hx hlk Bd.returns (hb hby dj43m23_24) (Nat.le_of_ble_eq_true rfl) (Nat.le_of_ble_eq_true rfl) ?_
    exact ⟨congrArg (fun z => some (Value.int z)) hv26.symm, rfl, e0⟩
  · refine OGets.step (fun _ => XS.icmpYes X0.here hx rfl (pc0 := 19) (pc' := 25) rfl (hb hby dj43m23_19) rfl (feq hc19_25).2 (by decide) (by decide)) ?_
    have hv27 := hv0.trans (if_neg hc19_25)
    show OGets p e below _ (s₁.setTop (mkF m 25 #[.val (.ref b), .val (.int p0), .val (.int (0 : Int32)), .val (.int (4 : Int32)), .val (.int (p0.toInt8.toInt32)), .val (.int (0 : Int32))] []))
    refine OGets.step (fun _ => XS.iinc X0.here hx rfl (hb hby dj43m23_25) rfl (l' := #[.val (.ref b), .val (.int p0), .val (.int (0 : Int32)), .val (.int (4 : Int32)), .val (.int (p0.toInt8.toInt32)), .val (.int (1 : Int32))]) rfl) ?_
    show OGets p e below _ (s₁.setTop (mkF m 28 #[.val (.ref b), .val (.int p0), .val (.int (0 : Int32)), .val (.int (4 : Int32)), .val (.int (p0.toInt8.toInt32)), .val (.int (1 : Int32))] []))
    refine OGets.step (fun _ => XS.goto X0.here hx rfl (pc0 := 28) (pc' := 7) rfl (hb hby dj43m23_28) (by decide) (by decide)) ?_
    show OGets p e below _ (s₁.setTop (mkF m 7 #[.val (.ref b), .val (.int p0), .val (.int (0 : Int32)), .val (.int (4 : Int32)), .val (.int (p0.toInt8.toInt32)), .val (.int (1 : Int32))] []))
    refine OGets.step (fun _ => XS.iload X0.here hx rfl (hb hby dj43m23_7) rfl) ?_
    show OGets p e below _ (s₁.setTop (mkF m 9 #[.val (.ref b), .val (.int p0), .val (.int (0 : Int32)), .val (.int (4 : Int32)), .val (.int (p0.toInt8.toInt32)), .val (.int (1 : Int32))] [(.int (1 : Int32))]))
    refine OGets.step (fun _ => XS.iloadN X0.here hx rfl (hb hby dj43m23_9) rfl) ?_
    show OGets p e below _ (s₁.setTop (mkF m 10 #[.val (.ref b), .val (.int p0), .val (.int (0 : Int32)), .val (.int (4 : Int32)), .val (.int (p0.toInt8.toInt32)), .val (.int (1 : Int32))] [(.int (4 : Int32)), (.int (1 : Int32))]))
    refine OGets.step (fun _ => XS.icmpNo X0.here hx rfl (hb hby dj43m23_10) rfl (tlt (by decide : (1 : Int32) < (4 : Int32))).2.1) ?_
    show OGets p e below _ (s₁.setTop (mkF m 13 #[.val (.ref b), .val (.int p0), .val (.int (0 : Int32)), .val (.int (4 : Int32)), .val (.int (p0.toInt8.toInt32)), .val (.int (1 : Int32))] []))
    refine OGets.step (fun _ => XS.aloadN X0.here hx rfl (hb hby dj43m23_13) rfl rfl) ?_
    show OGets p e below _ (s₁.setTop (mkF m 14 #[.val (.ref b), .val (.int p0), .val (.int (0 : Int32)), .val (.int (4 : Int32)), .val (.int (p0.toInt8.toInt32)), .val (.int (1 : Int32))] [(.ref b)]))
    refine OGets.step (fun _ => XS.iload X0.here hx rfl (hb hby dj43m23_14) rfl) ?_
    show OGets p e below _ (s₁.setTop (mkF m 16 #[.val (.ref b), .val (.int p0), .val (.int (0 : Int32)), .val (.int (4 : Int32)), .val (.int (p0.toInt8.toInt32)), .val (.int (1 : Int32))] [(.int (1 : Int32)), (.ref b)]))
    obtain ⟨cl29, Ar29, S29⟩ := V0.arr 0 rfl
    refine OGets.step (fun _ => X0.baloadBytes hx (j := (1 : Int32)) (v := (.int (46 : Int32))) (by rw [e0]; exact Ar29.1) (State.isArrayOf_alike hZ.alike Ar29.2.1) Ar29.2.2 (own_inb S29 1 (by decide) (by decide)) (own_get S29 1 (by decide) rfl) (g := (mkF m 16 #[.val (.ref b), .val (.int p0), .val (.int (0 : Int32)), .val (.int (4 : Int32)), .val (.int (p0.toInt8.toInt32)), .val (.int (1 : Int32))] [(.int (1 : Int32)), (.ref b)])) rfl rfl (hb hby dj43m23_16) _) ?_
    show OGets p e below _ (s₁.setTop (mkF m 17 #[.val (.ref b), .val (.int p0), .val (.int (0 : Int32)), .val (.int (4 : Int32)), .val (.int (p0.toInt8.toInt32)), .val (.int (1 : Int32))] [(.int (46 : Int32))]))
    refine OGets.step (fun _ => XS.iload X0.here hx rfl (hb hby dj43m23_17) rfl) ?_
    show OGets p e below _ (s₁.setTop (mkF m 19 #[.val (.ref b), .val (.int p0), .val (.int (0 : Int32)), .val (.int (4 : Int32)), .val (.int (p0.toInt8.toInt32)), .val (.int (1 : Int32))] [(.int (p0.toInt8.toInt32)), (.int (46 : Int32))]))
    by_cases hc19_30 : (46 : Int32) = (p0.toInt8.toInt32)
    · refine OGets.step (fun _ => XS.icmpNo X0.here hx rfl (hb hby dj43m23_19) rfl (teq hc19_30).2) ?_
      have hv31 := hv27.trans (if_pos hc19_30)
      show OGets p e below _ (s₁.setTop (mkF m 22 #[.val (.ref b), .val (.int p0), .val (.int (0 : Int32)), .val (.int (4 : Int32)), .val (.int (p0.toInt8.toInt32)), .val (.int (1 : Int32))] []))
      refine OGets.step (fun _ => XS.iload X0.here hx rfl (hb hby dj43m23_22) rfl) ?_
      show OGets p e below _ (s₁.setTop (mkF m 24 #[.val (.ref b), .val (.int p0), .val (.int (0 : Int32)), .val (.int (4 : Int32)), .val (.int (p0.toInt8.toInt32)), .val (.int (1 : Int32))] [(.int (1 : Int32))]))
      refine OGets.retI X0 hx hlk Bd.returns (hb hby dj43m23_24) (Nat.le_of_ble_eq_true rfl) (Nat.le_of_ble_eq_true rfl) ?_
      exact ⟨congrArg (fun z => some (Value.int z)) hv31.symm, rfl, e0⟩
    · refine OGets.step (fun _ => XS.icmpYes X0.here hx rfl (pc0 := 19) (pc' := 25) rfl (hb hby dj43m23_19) rfl (feq hc19_30).2 (by decide) (by decide)) ?_
      have hv32 := hv27.trans (if_neg hc19_30)
      show OGets p e below _ (s₁.setTop (mkF m 25 #[.val (.ref b), .val (.int p0), .val (.int (0 : Int32)), .val (.int (4 : Int32)), .val (.int (p0.toInt8.toInt32)), .val (.int (1 : Int32))] []))
      refine OGets.step (fun _ => XS.iinc X0.here hx rfl (hb hby dj43m23_25) rfl (l' := #[.val (.ref b), .val (.int p0), .val (.int (0 : Int32)), .val (.int (4 : Int32)), .val (.int (p0.toInt8.toInt32)), .val (.int (2 : Int32))]) rfl) ?_
      show OGets p e below _ (s₁.setTop (mkF m 28 #[.val (.ref b), .val (.int p0), .val (.int (0 : Int32)), .val (.int (4 : Int32)), .val (.int (p0.toInt8.toInt32)), .val (.int (2 : Int32))] []))
      refine OGets.step (fun _ => XS.goto X0.here hx rfl (pc0 := 28) (pc' := 7) rfl (hb hby dj43m23_28) (by decide) (by decide)) ?_
      show OGets p e below _ (s₁.setTop (mkF m 7 #[.val (.ref b), .val (.int p0), .val (.int (0 : Int32)), .val (.int (4 : Int32)), .val (.int (p0.toInt8.toInt32)), .val (.int (2 : Int32))] []))
      refine OGets.step (fun _ => XS.iload X0.here hx rfl (hb hby dj43m23_7) rfl) ?_
      show OGets p e below _ (s₁.setTop (mkF m 9 #[.val (.ref b), .val (.int p0), .val (.int (0 : Int32)), .val (.int (4 : Int32)), .val (.int (p0.toInt8.toInt32)), .val (.int (2 : Int32))] [(.int (2 : Int32))]))
      refine OGets.step (fun _ => XS.iloadN X0.here hx rfl (hb hby dj43m23_9) rfl) ?_
      show OGets p e below _ (s₁.setTop (mkF m 10 #[.val (.ref b), .val (.int p0), .val (.int (0 : Int32)), .val (.int (4 : Int32)), .val (.int (p0.toInt8.toInt32)), .val (.int (2 : Int32))] [(.int (4 : Int32)), (.int (2 : Int32))]))
      refine OGets.step (fun _ => XS.icmpNo X0.here hx rfl (hb hby dj43m23_10) rfl (tlt (by decide : (2 : Int32) < (4 : Int32))).2.1) ?_
      show OGets p e below _ (s₁.setTop (mkF m 13 #[.val (.ref b), .val (.int p0), .val (.int (0 : Int32)), .val (.int (4 : Int32)), .val (.int (p0.toInt8.toInt32)), .val (.int (2 : Int32))] []))
      refine OGets.step (fun _ => XS.aloadN X0.here hx rfl (hb hby dj43m23_13) rfl rfl) ?_
      show OGets p e below _ (s₁.setTop (mkF m 14 #[.val (.ref b), .val (.int p0), .val (.int (0 : Int32)), .val (.int (4 : Int32)), .val (.int (p0.toInt8.toInt32)), .val (.int (2 : Int32))] [(.ref b)]))
      refine OGets.step (fun _ => XS.iload X0.here hx rfl (hb hby dj43m23_14) rfl) ?_
      show OGets p e below _ (s₁.setTop (mkF m 16 #[.val (.ref b), .val (.int p0), .val (.int (0 : Int32)), .val (.int (4 : Int32)), .val (.int (p0.toInt8.toInt32)), .val (.int (2 : Int32))] [(.int (2 : Int32)), (.ref b)]))
      obtain ⟨cl34, Ar34, S34⟩ := V0.arr 0 rfl
      refine OGets.step (fun _ => X0.baloadBytes hx (j := (2 : Int32)) (v := (.int (95 : Int32))) (by rw [e0]; exact Ar34.1) (State.isArrayOf_alike hZ.alike Ar34.2.1) Ar34.2.2 (own_inb S34 2 (by decide) (by decide)) (own_get S34 2 (by decide) rfl) (g := (mkF m 16 #[.val (.ref b), .val (.int p0), .val (.int (0 : Int32)), .val (.int (4 : Int32)), .val (.int (p0.toInt8.toInt32)), .val (.int (2 : Int32))] [(.int (2 : Int32)), (.ref b)])) rfl rfl (hb hby dj43m23_16) _) ?_
      show OGets p e below _ (s₁.setTop (mkF m 17 #[.val (.ref b), .val (.int p0), .val (.int (0 : Int32)), .val (.int (4 : Int32)), .val (.int (p0.toInt8.toInt32)), .val (.int (2 : Int32))] [(.int (95 : Int32))]))
      refine OGets.step (fun _ => XS.iload X0.here hx rfl (hb hby dj43m23_17) rfl) ?_
      show OGets p e below _ (s₁.setTop (mkF m 19 #[.val (.ref b), .val (.int p0), .val (.int (0 : Int32)), .val (.int (4 : Int32)), .val (.int (p0.toInt8.toInt32)), .val (.int (2 : Int32))] [(.int (p0.toInt8.toInt32)), (.int (95 : Int32))]))
      by_cases hc19_35 : (95 : Int32) = (p0.toInt8.toInt32)
      · refine OGets.step (fun _ => XS.icmpNo X0.here hx rfl (hb hby dj43m23_19) rfl (teq hc19_35).2) ?_
        have hv36 := hv32.trans (if_pos hc19_35)
        show OGets p e below _ (s₁.setTop (mkF m 22 #[.val (.ref b), .val (.int p0), .val (.int (0 : Int32)), .val (.int (4 : Int32)), .val (.int (p0.toInt8.toInt32)), .val (.int (2 : Int32))] []))
        refine OGets.step (fun _ => XS.iload X0.here hx rfl (hb hby dj43m23_22) rfl) ?_
        show OGets p e below _ (s₁.setTop (mkF m 24 #[.val (.ref b), .val (.int p0), .val (.int (0 : Int32)), .val (.int (4 : Int32)), .val (.int (p0.toInt8.toInt32)), .val (.int (2 : Int32))] [(.int (2 : Int32))]))
        refine OGets.retI X0 hx hlk Bd.returns (hb hby dj43m23_24) (Nat.le_of_ble_eq_true rfl) (Nat.le_of_ble_eq_true rfl) ?_
        exact ⟨congrArg (fun z => some (Value.int z)) hv36.symm, rfl, e0⟩
      · refine OGets.step (fun _ => XS.icmpYes X0.here hx rfl (pc0 := 19) (pc' := 25) rfl (hb hby dj43m23_19) rfl (feq hc19_35).2 (by decide) (by decide)) ?_
        have hv37 := hv32.trans (if_neg hc19_35)
        show OGets p e below _ (s₁.setTop (mkF m 25 #[.val (.ref b), .val (.int p0), .val (.int (0 : Int32)), .val (.int (4 : Int32)), .val (.int (p0.toInt8.toInt32)), .val (.int (2 : Int32))] []))
        refine OGets.step (fun _ => XS.iinc X0.here hx rfl (hb hby dj43m23_25) rfl (l' := #[.val (.ref b), .val (.int p0), .val (.int (0 : Int32)), .val (.int (4 : Int32)), .val (.int (p0.toInt8.toInt32)), .val (.int (3 : Int32))]) rfl) ?_
        show OGets p e below _ (s₁.setTop (mkF m 28 #[.val (.ref b), .val (.int p0), .val (.int (0 : Int32)), .val (.int (4 : Int32)), .val (.int (p0.toInt8.toInt32)), .val (.int (3 : Int32))] []))
        refine OGets.step (fun _ => XS.goto X0.here hx rfl (pc0 := 28) (pc' := 7) rfl (hb hby dj43m23_28) (by decide) (by decide)) ?_
        show OGets p e below _ (s₁.setTop (mkF m 7 #[.val (.ref b), .val (.int p0), .val (.int (0 : Int32)), .val (.int (4 : Int32)), .val (.int (p0.toInt8.toInt32)), .val (.int (3 : Int32))] []))
        refine OGets.step (fun _ => XS.iload X0.here hx rfl (hb hby dj43m23_7) rfl) ?_
        show OGets p e below _ (s₁.setTop (mkF m 9 #[.val (.ref b), .val (.int p0), .val (.int (0 : Int32)), .val (.int (4 : Int32)), .val (.int (p0.toInt8.toInt32)), .val (.int (3 : Int32))] [(.int (3 : Int32))]))
        refine OGets.step (fun _ => XS.iloadN X0.here hx rfl (hb hby dj43m23_9) rfl) ?_
        show OGets p e below _ (s₁.setTop (mkF m 10 #[.val (.ref b), .val (.int p0), .val (.int (0 : Int32)), .val (.int (4 : Int32)), .val (.int (p0.toInt8.toInt32)), .val (.int (3 : Int32))] [(.int (4 : Int32)), (.int (3 : Int32))]))
        refine OGets.step (fun _ => XS.icmpNo X0.here hx rfl (hb hby dj43m23_10) rfl (tlt (by decide : (3 : Int32) < (4 : Int32))).2.1) ?_
        show OGets p e below _ (s₁.setTop (mkF m 13 #[.val (.ref b), .val (.int p0), .val (.int (0 : Int32)), .val (.int (4 : Int32)), .val (.int (p0.toInt8.toInt32)), .val (.int (3 : Int32))] []))
        refine OGets.step (fun _ => XS.aloadN X0.here hx rfl (hb hby dj43m23_13) rfl rfl) ?_
        show OGets p e below _ (s₁.setTop (mkF m 14 #[.val (.ref b), .val (.int p0), .val (.int (0 : Int32)), .val (.int (4 : Int32)), .val (.int (p0.toInt8.toInt32)), .val (.int (3 : Int32))] [(.ref b)]))
        refine OGets.step (fun _ => XS.iload X0.here hx rfl (hb hby dj43m23_14) rfl) ?_
        show OGets p e below _ (s₁.setTop (mkF m 16 #[.val (.ref b), .val (.int p0), .val (.int (0 : Int32)), .val (.int (4 : Int32)), .val (.int (p0.toInt8.toInt32)), .val (.int (3 : Int32))] [(.int (3 : Int32)), (.ref b)]))
        obtain ⟨cl39, Ar39, S39⟩ := V0.arr 0 rfl
        refine OGets.step (fun _ => X0.baloadBytes hx (j := (3 : Int32)) (v := (.int (126 : Int32))) (by rw [e0]; exact Ar39.1) (State.isArrayOf_alike hZ.alike Ar39.2.1) Ar39.2.2 (own_inb S39 3 (by decide) (by decide)) (own_get S39 3 (by decide) rfl) (g := (mkF m 16 #[.val (.ref b), .val (.int p0), .val (.int (0 : Int32)), .val (.int (4 : Int32)), .val (.int (p0.toInt8.toInt32)), .val (.int (3 : Int32))] [(.int (3 : Int32)), (.ref b)])) rfl rfl (hb hby dj43m23_16) _) ?_
        show OGets p e below _ (s₁.setTop (mkF m 17 #[.val (.ref b), .val (.int p0), .val (.int (0 : Int32)), .val (.int (4 : Int32)), .val (.int (p0.toInt8.toInt32)), .val (.int (3 : Int32))] [(.int (126 : Int32))]))
        refine OGets.step (fun _ => XS.iload X0.here hx rfl (hb hby dj43m23_17) rfl) ?_
        show OGets p e below _ (s₁.setTop (mkF m 19 #[.val (.ref b), .val (.int p0), .val (.int (0 : Int32)), .val (.int (4 : Int32)), .val (.int (p0.toInt8.toInt32)), .val (.int (3 : Int32))] [(.int (p0.toInt8.toInt32)), (.int (126 : Int32))]))
        by_cases hc19_40 : (126 : Int32) = (p0.toInt8.toInt32)
        · refine OGets.step (fun _ => XS.icmpNo X0.here hx rfl (hb hby dj43m23_19) rfl (teq hc19_40).2) ?_
          have hv41 := hv37.trans (if_pos hc19_40)
          show OGets p e below _ (s₁.setTop (mkF m 22 #[.val (.ref b), .val (.int p0), .val (.int (0 : Int32)), .val (.int (4 : Int32)), .val (.int (p0.toInt8.toInt32)), .val (.int (3 : Int32))] []))
          refine OGets.step (fun _ => XS.iload X0.here hx rfl (hb hby dj43m23_22) rfl) ?_
          show OGets p e below _ (s₁.setTop (mkF m 24 #[.val (.ref b), .val (.int p0), .val (.int (0 : Int32)), .val (.int (4 : Int32)), .val (.int (p0.toInt8.toInt32)), .val (.int (3 : Int32))] [(.int (3 : Int32))]))
          refine OGets.retI X0 hx hlk Bd.returns (hb hby dj43m23_24) (Nat.le_of_ble_eq_true rfl) (Nat.le_of_ble_eq_true rfl) ?_
          exact ⟨congrArg (fun z => some (Value.int z)) hv41.symm, rfl, e0⟩
        · refine OGets.step (fun _ => XS.icmpYes X0.here hx rfl (pc0 := 19) (pc' := 25) rfl (hb hby dj43m23_19) rfl (feq hc19_40).2 (by decide) (by decide)) ?_
          have hv42 := hv37.trans (if_neg hc19_40)
          show OGets p e below _ (s₁.setTop (mkF m 25 #[.val (.ref b), .val (.int p0), .val (.int (0 : Int32)), .val (.int (4 : Int32)), .val (.int (p0.toInt8.toInt32)), .val (.int (3 : Int32))] []))
          refine OGets.step (fun _ => XS.iinc X0.here hx rfl (hb hby dj43m23_25) rfl (l' := #[.val (.ref b), .val (.int p0), .val (.int (0 : Int32)), .val (.int (4 : Int32)), .val (.int (p0.toInt8.toInt32)), .val (.int (4 : Int32))]) rfl) ?_
          show OGets p e below _ (s₁.setTop (mkF m 28 #[.val (.ref b), .val (.int p0), .val (.int (0 : Int32)), .val (.int (4 : Int32)), .val (.int (p0.toInt8.toInt32)), .val (.int (4 : Int32))] []))
          refine OGets.step (fun _ => XS.goto X0.here hx rfl (pc0 := 28) (pc' := 7) rfl (hb hby dj43m23_28) (by decide) (by decide)) ?_
          show OGets p e below _ (s₁.setTop (mkF m 7 #[.val (.ref b), .val (.int p0), .val (.int (0 : Int32)), .val (.int (4 : Int32)), .val (.int (p0.toInt8.toInt32)), .val (.int (4 : Int32))] []))
          refine OGets.step (fun _ => XS.iload X0.here hx rfl (hb hby dj43m23_7) rfl) ?_
          show OGets p e below _ (s₁.setTop (mkF m 9 #[.val (.ref b), .val (.int p0), .val (.int (0 : Int32)), .val (.int (4 : Int32)), .val (.int (p0.toInt8.toInt32)), .val (.int (4 : Int32))] [(.int (4 : Int32))]))
          refine OGets.step (fun _ => XS.iloadN X0.here hx rfl (hb hby dj43m23_9) rfl) ?_
          show OGets p e below _ (s₁.setTop (mkF m 10 #[.val (.ref b), .val (.int p0), .val (.int (0 : Int32)), .val (.int (4 : Int32)), .val (.int (p0.toInt8.toInt32)), .val (.int (4 : Int32))] [(.int (4 : Int32)), (.int (4 : Int32))]))
          refine OGets.step (fun _ => XS.icmpYes X0.here hx rfl (pc0 := 10) (pc' := 31) rfl (hb hby dj43m23_10) rfl (flt (by decide : ¬ ((4 : Int32) < (4 : Int32)))).2.1 (by decide) (by decide)) ?_
          show OGets p e below _ (s₁.setTop (mkF m 31 #[.val (.ref b), .val (.int p0), .val (.int (0 : Int32)), .val (.int (4 : Int32)), .val (.int (p0.toInt8.toInt32)), .val (.int (4 : Int32))] []))
          refine OGets.step (fun _ => XS.iconst X0.here hx rfl (hb hby dj43m23_31)) ?_
          show OGets p e below _ (s₁.setTop (mkF m 32 #[.val (.ref b), .val (.int p0), .val (.int (0 : Int32)), .val (.int (4 : Int32)), .val (.int (p0.toInt8.toInt32)), .val (.int (4 : Int32))] [(.int (-1 : Int32))]))
          refine OGets.retI X0 hx hlk Bd.returns (hb hby dj43m23_32) (Nat.le_of_ble_eq_true rfl) (Nat.le_of_ble_eq_true rfl) ?_
          exact ⟨congrArg (fun z => some (Value.int z)) hv42.symm, rfl, e0⟩
def f_lixa (p0 : Int32) : Int32 := (if (f_can p0) = (0 : Int32) then (-1 : Int32) else (f_chra p0))
theorem dj43m22_0 : decode jdk_43_method_22_code 0 = .ok (.iload_n 1, 1) := by decide +kernel
theorem dj43m22_1 : decode jdk_43_method_22_code 1 = .ok (.invokestatic 88, 3) := by decide +kernel
theorem pd_3 : parseMethodDescriptor "(I)Z" = some ⟨[.int], some .boolean⟩ := by decide +kernel
theorem dj43m22_4 : decode jdk_43_method_22_code 4 = .ok (.ifCond .ne 5, 3) := by decide +kernel
theorem dj43m22_7 : decode jdk_43_method_22_code 7 = .ok (.iconst (-1), 1) := by decide +kernel
theorem dj43m22_8 : decode jdk_43_method_22_code 8 = .ok (.ireturn, 1) := by decide +kernel
theorem dj43m22_9 : decode jdk_43_method_22_code 9 = .ok (.iload_n 2, 1) := by decide +kernel
theorem dj43m22_10 : decode jdk_43_method_22_code 10 = .ok (.iconst 0, 1) := by decide +kernel
theorem dj43m22_11 : decode jdk_43_method_22_code 11 = .ok (.invokestatic 92, 3) := by decide +kernel
theorem pd_4 : parseMethodDescriptor "(II)I" = some ⟨[.int, .int], some .int⟩ := by decide +kernel
theorem dj43m22_14 : decode jdk_43_method_22_code 14 = .ok (.istore_n 2, 1) := by decide +kernel
theorem dj43m22_15 : decode jdk_43_method_22_code 15 = .ok (.iload_n 3, 1) := by decide +kernel
theorem dj43m22_16 : decode jdk_43_method_22_code 16 = .ok (.aload_n 0, 1) := by decide +kernel
theorem dj43m22_17 : decode jdk_43_method_22_code 17 = .ok (.arraylength, 1) := by decide +kernel
theorem dj43m22_18 : decode jdk_43_method_22_code 18 = .ok (.invokestatic 38, 3) := by decide +kernel
theorem dj43m22_21 : decode jdk_43_method_22_code 21 = .ok (.istore_n 3, 1) := by decide +kernel
theorem dj43m22_22 : decode jdk_43_method_22_code 22 = .ok (.iload_n 2, 1) := by decide +kernel
theorem dj43m22_23 : decode jdk_43_method_22_code 23 = .ok (.iload_n 3, 1) := by decide +kernel
theorem dj43m22_24 : decode jdk_43_method_22_code 24 = .ok (.if_icmp .lt 5, 3) := by decide +kernel
theorem dj43m22_29 : decode jdk_43_method_22_code 29 = .ok (.aload_n 0, 1) := by decide +kernel
theorem dj43m22_30 : decode jdk_43_method_22_code 30 = .ok (.iload_n 1, 1) := by decide +kernel
theorem dj43m22_31 : decode jdk_43_method_22_code 31 = .ok (.iload_n 2, 1) := by decide +kernel
theorem dj43m22_32 : decode jdk_43_method_22_code 32 = .ok (.iload_n 3, 1) := by decide +kernel
theorem dj43m22_33 : decode jdk_43_method_22_code 33 = .ok (.invokestatic 95, 3) := by decide +kernel
theorem pd_5 : parseMethodDescriptor "([BIII)I" = some ⟨[(.array .byte), .int, .int, .int], some .int⟩ := by decide +kernel
theorem dj43m22_36 : decode jdk_43_method_22_code 36 = .ok (.ireturn, 1) := by decide +kernel
theorem ef_lixa (m : MethodId) (x0 : Addr) (x1 : Int32) (x2 : Int32) (x3 : Int32) : entryFrame m #[(.ref x0), (.int x1), (.int x2), (.int x3)] 4 = mkF m 0 #[.val (.ref x0), .val (.int x1), .val (.int x2), .val (.int x3)] [] := by first | (simp [entryFrame, mkF, argsToLocals, Value.category]; done) | rfl
def Q_lixa (Z : State) (b : Addr) (p0 : Int32) (h0 : Heap) (n0 : Nat) (F : List (Addr × OObj)) (v : Option Value) (h : Heap) (L : List Loc) : Prop := v = some (.int (f_lixa p0)) ∧ L = [] ∧ h = h0
set_option maxRecDepth 65536 in
set_option maxHeartbeats 40000000 in
theorem rm_lixa (l : Launch) (Z : State) (a0 : Array Value) (hw : ∀ d ∈ tables_1, d.before a0 Z = true) (ws : List Jvm.Cond) (b : Addr) (p0 : Int32) (h0 : Heap) (n0 : Nat) (F : List (Addr × OObj)) (Z0 : n0 ≤ h0.size) (V0 : OView Z n0 h0 (((b, Sum.inr (.byte, [(.int (45 : Int32)), (.int (46 : Int32)), (.int (95 : Int32)), (.int (126 : Int32))])) : Addr × OObj) :: F)) :
    MetFree l (⟨"java/lang/StringLatin1", "indexOf", "([BIII)I"⟩ : MethodName) (head1 (Jvm.Cond.code (⟨"java/lang/StringLatin1", "indexOf", "([BIII)I"⟩ : MethodName) jdk_43_method_22_code 4 (some .int) :: ws) ({ frames := 1, cells := 0, slots := 0, locals := 17 } : Room)) (fun a_ U => a_ = #[(.ref b), (.int p0), (.int (0 : Int32)), (.int (4 : Int32))] ∧ Z.Warmed39 U.vm ∧ U.heap = h0) (fun _ _ _ _ _ => True) (fun _ U o U' => ∃ v L, o = .returned v ∧ Q_lixa Z b p0 h0 n0 F v U'.heap L ∧ FrameEnd U o U' L ({ frames := 1, cells := 0, slots := 0, locals := 17 } : Room).cells ({ frames := 1, cells := 0, slots := 0, locals := 17 } : Room).slots) := by
  refine MetFree.of_bodySF (plainFor_of_name pn_0) hisR ?_
  intro p e s m args below meth c s₁ Bd hml0 hP hK
  obtain ⟨rfl, hZ, hh⟩ := hP
  have hx := Bd.exec
  have hby := Bd.bytes
  have hlk : meth.locks = false := Bd.notSynchronized
  have hml : c.maxLocals = 4 := hml0
  have hown : s.vm.findClass "java/lang/StringLatin1" = some m.cls := findClass_of_methodNamed Bd.named
  have hnm := (name_of_methodNamed Bd.named Bd.method).1
  have X0 : Stand p l e ({ frames := 1, cells := 0, slots := 0, locals := 17 } : Room) s m #[(.ref b), (.int p0), (.int (0 : Int32)), (.int (4 : Int32))] below meth c s₁ [] 0 0 := Stand.of_body Bd
  have e0 : s₁.heap = h0 := by rw [← hh, Bd.state]; rfl
  have N0 := Fr.nil n0
  have hv0 : f_lixa p0 = (if (f_can p0) = (0 : Int32) then (-1 : Int32) else (f_chra p0)) := rfl
  show OGets p e below (OLeaves s (Q_lixa Z b p0 h0 n0 F ) ({ frames := 1, cells := 0, slots := 0, locals := 17 } : Room).cells ({ frames := 1, cells := 0, slots := 0, locals := 17 } : Room).slots) _
  refine OGets.enter (ef_lixa m b p0 (0 : Int32) (4 : Int32)) ?_
  show OGets p e below _ (s₁.setTop (mkF m 0 #[.val (.ref b), .val (.int p0), .val (.int (0 : Int32)), .val (.int (4 : Int32))] []))
  refine OGets.step (fun _ => XS.iloadN X0.here hx rfl (hb hby dj43m22_0) rfl) ?_
  show OGets p e below _ (s₁.setTop (mkF m 1 #[.val (.ref b), .val (.int p0), .val (.int (0 : Int32)), .val (.int (4 : Int32))] [(.int p0)]))
  obtain ⟨_, _, ⟨T44, L44, k44, n44⟩, -, X44, ⟨Lc44, hQ44, l44, y44, z44⟩, st44⟩ := Jvm.LawKit.callS X0 hx (y := (⟨"java/lang/StringLatin1", "canEncode", "(I)Z"⟩ : MethodName)) hown (mvT hZ (hw _ (List.mem_of_getElem? (i := 45) rfl))) (mvT hZ (hw _ (List.mem_of_getElem? (i := 46) rfl))) (mvT hZ (hw _ (List.mem_of_getElem? (i := 43) rfl))) (mvT hZ (hw _ (List.mem_of_getElem? (i := 47) rfl))) (by decide) (backOf (W := 0) (rm_can l Z a0 hw [] p0 h0 n0  Z0 ) hZ (hw _ (List.mem_of_getElem? (i := 47) rfl)) (hw _ (List.mem_of_getElem? (i := 43) rfl)) (by decide) (by decide)) (g := (mkF m 1 #[.val (.ref b), .val (.int p0), .val (.int (0 : Int32)), .val (.int (4 : Int32))] [(.int p0)])) rfl (by rw [hml]; rfl) (argsL := [(.int p0)]) (rest := []) (lenOf pd_3 rfl) rfl (by show 2 * 0 + _ ≤ _; exact Nat.le_of_eq rfl) (hb hby dj43m22_1) (fun _ _ => ⟨rfl, e0, Nat.le_of_ble_eq_true rfl, Nat.le_of_ble_eq_true rfl⟩)
  dsimp only [Pt.U, Pt.locs, Pt.cells, Pt.slots] at X44 l44 y44 z44 st44 hQ44
  rw [l44, y44, z44] at X44
  obtain ⟨rfl, rfl, e44⟩ := hQ44
  have X44 : Stand p l e _ s m #[(.ref b), (.int p0), (.int (0 : Int32)), (.int (4 : Int32))] below meth c T44 [] 0 0 := X44
  refine OGets.step st44 ?_
  show OGets p e below _ (T44.setTop (mkF m 4 #[.val (.ref b), .val (.int p0), .val (.int (0 : Int32)), .val (.int (4 : Int32))] [(.int (f_can p0))]))
  by_cases hc4_45 : (f_can p0) = (0 : Int32)
  · refine OGets.step (fun _ => XS.ifNo X44.here hx rfl (hb hby dj43m22_4) rfl ((if0 _ _).trans (teq hc4_45).2)) ?_
    have hv46 := hv0.trans (if_pos hc4_45)
    show OGets p e below _ (T44.setTop (mkF m 7 #[.val (.ref b), .val (.int p0), .val (.int (0 : Int32)), .val (.int (4 : Int32))] []))
    refine OGets.step (fun _ => XS.iconst X44.here hx rfl (hb hby dj43m22_7)) ?_
    show OGets p e below _ (T44.setTop (mkF m 8 #[.val (.ref b), .val (.int p0), .val (.int (0 : Int32)), .val (.int (4 : Int32))] [(.int (-1 : Int32))]))
    refine OGets.retI X44 hx hlk Bd.returns (hb hby dj43m22_8) (Nat.le_of_ble_eq_true rfl) (Nat.le_of_ble_eq_true rfl) ?_
    exact ⟨congrArg (fun z => some (Value.int z)) hv46.symm, rfl, e44⟩
  · refine OGets.step (fun _ => XS.ifYes X44.here hx rfl (pc0 := 4) (pc' := 9) rfl (hb hby dj43m22_4) rfl ((if0 _ _).trans (feq hc4_45).2) (by decide) (by decide)) ?_
    have hv47 := hv0.trans (if_neg hc4_45)
    show OGets p e below _ (T44.setTop (mkF m 9 #[.val (.ref b), .val (.int p0), .val (.int (0 : Int32)), .val (.int (4 : Int32))] []))
    refine OGets.step (fun _ => XS.iloadN X44.here hx rfl (hb hby dj43m22_9) rfl) ?_
    show OGets p e below _ (T44.setTop (mkF m 10 #[.val (.ref b), .val (.int p0), .val (.int (0 : Int32)), .val (.int (4 : Int32))] [(.int (0 : Int32))]))
    refine OGets.step (fun _ => XS.iconst X44.here hx rfl (hb hby dj43m22_10)) ?_
    show OGets p e below _ (T44.setTop (mkF m 11 #[.val (.ref b), .val (.int p0), .val (.int (0 : Int32)), .val (.int (4 : Int32))] [(.int (0 : Int32)), (.int (0 : Int32))]))
    obtain ⟨_, _, ⟨T48, L48, k48, n48⟩, -, X48, ⟨Lc48, hQ48, l48, y48, z48⟩, st48⟩ := Jvm.LawKit.callS X44 hx (y := (⟨"java/lang/Math", "max", "(II)I"⟩ : MethodName)) hown (mvT hZ (hw _ (List.mem_of_getElem? (i := 55) rfl))) (mvT hZ (hw _ (List.mem_of_getElem? (i := 56) rfl))) (mvT hZ (hw _ (List.mem_of_getElem? (i := 57) rfl))) (mvT hZ (hw _ (List.mem_of_getElem? (i := 58) rfl))) (by decide) (backOf (W := 0) (rm_mx l Z a0 hw [] (0 : Int32) (0 : Int32) h0 n0  Z0 ) hZ (hw _ (List.mem_of_getElem? (i := 58) rfl)) (hw _ (List.mem_of_getElem? (i := 57) rfl)) (by decide) (by decide)) (g := (mkF m 11 #[.val (.ref b), .val (.int p0), .val (.int (0 : Int32)), .val (.int (4 : Int32))] [(.int (0 : Int32)), (.int (0 : Int32))])) rfl (by rw [hml]; rfl) (argsL := [(.int (0 : Int32)), (.int (0 : Int32))]) (rest := []) (lenOf pd_4 rfl) rfl (by show 2 * 0 + _ ≤ _; exact Nat.le_of_eq rfl) (hb hby dj43m22_11) (fun _ _ => ⟨rfl, e44, Nat.le_of_ble_eq_true rfl, Nat.le_of_ble_eq_true rfl⟩)
    dsimp only [Pt.U, Pt.locs, Pt.cells, Pt.slots] at X48 l48 y48 z48 st48 hQ48
    rw [l48, y48, z48] at X48
    obtain ⟨rfl, rfl, e48⟩ := hQ48
    have X48 : Stand p l e _ s m #[(.ref b), (.int p0), (.int (0 : Int32)), (.int (4 : Int32))] below meth c T48 [] 0 0 := X48
    rw [show f_mx (0 : Int32) (0 : Int32) = (0 : Int32) from by decide] at st48
    refine OGets.step st48 ?_
    show OGets p e below _ (T48.setTop (mkF m 14 #[.val (.ref b), .val (.int p0), .val (.int (0 : Int32)), .val (.int (4 : Int32))] [(.int (0 : Int32))]))
    refine OGets.step (fun _ => XS.istoreN X48.here hx rfl (hb hby dj43m22_14) rfl (l' := #[.val (.ref b), .val (.int p0), .val (.int (0 : Int32)), .val (.int (4 : Int32))]) rfl) ?_
    show OGets p e below _ (T48.setTop (mkF m 15 #[.val (.ref b), .val (.int p0), .val (.int (0 : Int32)), .val (.int (4 : Int32))] []))
    refine OGets.step (fun _ => XS.iloadN X48.here hx rfl (hb hby dj43m22_15) rfl) ?_
    show OGets p e below _ (T48.setTop (mkF m 16 #[.val (.ref b), .val (.int p0), .val (.int (0 : Int32)), .val (.int (4 : Int32))] [(.int (4 : Int32))]))
    refine OGets.step (fun _ => XS.aloadN X48.here hx rfl (hb hby dj43m22_16) rfl rfl) ?_
    show OGets p e below _ (T48.setTop (mkF m 17 #[.val (.ref b), .val (.int p0), .val (.int (0 : Int32)), .val (.int (4 : Int32))] [(.ref b), (.int (4 : Int32))]))
    obtain ⟨cl49, Ar49, S49⟩ := V0.arr 0 rfl
    have ln49 : cl49.slots.size.toInt32 = (4 : Int32) := by rw [own_len S49]; rfl
    refine OGets.step (U' := T48.setTop (mkF m 18 #[.val (.ref b), .val (.int p0), .val (.int (0 : Int32)), .val (.int (4 : Int32))] [(.int (4 : Int32)), (.int (4 : Int32))])) (fun t kt => ?_) ?_
    · refine X48.arraylength hx (by rw [e48]; exact Ar49.1) (State.isArrayOf_alike hZ.alike Ar49.2.1) (g := (mkF m 17 #[.val (.ref b), .val (.int p0), .val (.int (0 : Int32)), .val (.int (4 : Int32))] [(.ref b), (.int (4 : Int32))])) rfl rfl (hb hby dj43m22_17) _ ?_
      rw [ln49]; exact kt
    show OGets p e below _ (T48.setTop (mkF m 18 #[.val (.ref b), .val (.int p0), .val (.int (0 : Int32)), .val (.int (4 : Int32))] [(.int (4 : Int32)), (.int (4 : Int32))]))
    obtain ⟨_, _, ⟨T50, L50, k50, n50⟩, -, X50, ⟨Lc50, hQ50, l50, y50, z50⟩, st50⟩ := Jvm.LawKit.callS X48 hx (y := (⟨"java/lang/Math", "min", "(II)I"⟩ : MethodName)) hown (mvT hZ (hw _ (List.mem_of_getElem? (i := 59) rfl))) (mvT hZ (hw _ (List.mem_of_getElem? (i := 60) rfl))) (mvT hZ (hw _ (List.mem_of_getElem? (i := 57) rfl))) (mvT hZ (hw _ (List.mem_of_getElem? (i := 61) rfl))) (by decide) (backOf (W := 0) (rm_mi l Z a0 hw [] (4 : Int32) (4 : Int32) h0 n0  Z0 ) hZ (hw _ (List.mem_of_getElem? (i := 61) rfl)) (hw _ (List.mem_of_getElem? (i := 57) rfl)) (by decide) (by decide)) (g := (mkF m 18 #[.val (.ref b), .val (.int p0), .val (.int (0 : Int32)), .val (.int (4 : Int32))] [(.int (4 : Int32)), (.int (4 : Int32))])) rfl (by rw [hml]; rfl) (argsL := [(.int (4 : Int32)), (.int (4 : Int32))]) (rest := []) (lenOf pd_4 rfl) rfl (by show 2 * 0 + _ ≤ _; exact Nat.le_of_eq rfl) (hb hby dj43m22_18) (fun _ _ => ⟨rfl, e48, Nat.le_of_ble_eq_true rfl, Nat.le_of_ble_eq_true rfl⟩)
    dsimp only [Pt.U, Pt.locs, Pt.cells, Pt.slots] at X50 l50 y50 z50 st50 hQ50
    rw [l50, y50, z50] at X50
    obtain ⟨rfl, rfl, e50⟩ := hQ50
    have X50 : Stand p l e _ s m #[(.ref b), (.int p0), (.int (0 : Int32)), (.int (4 : Int32))] below meth c T50 [] 0 0 := X50
    rw [show f_mi (4 : Int32) (4 : Int32) = (4 : Int32) from by decide] at st50
    refine OGets.step st50 ?_
    show OGets p e below _ (T50.setTop (mkF m 21 #[.val (.ref b), .val (.int p0), .val (.int (0 : Int32)), .val (.int (4 : Int32))] [(.int (4 : Int32))]))
    refine OGets.step (fun _ => XS.istoreN X50.here hx rfl (hb hby dj43m22_21) rfl (l' := #[.val (.ref b), .val (.int p0), .val (.int (0 : Int32)), .val (.int (4 : Int32))]) rfl) ?_
    show OGets p e below _ (T50.setTop (mkF m 22 #[.val (.ref b), .val (.int p0), .val (.int (0 : Int32)), .val (.int (4 : Int32))] []))
    refine OGets.step (fun _ => XS.iloadN X50.here hx rfl (hb hby dj43m22_22) rfl) ?_
    show OGets p e below _ (T50.setTop (mkF m 23 #[.val (.ref b), .val (.int p0), .val (.int (0 : Int32)), .val (.int (4 : Int32))] [(.int (0 : Int32))]))
    refine OGets.step (fun _ => XS.iloadN X50.here hx rfl (hb hby dj43m22_23) rfl) ?_
    show OGets p e below _ (T50.setTop (mkF m 24 #[.val (.ref b), .val (.int p0), .val (.int (0 : Int32)), .val (.int (4 : Int32))] [(.int (4 : Int32)), (.int (0 : Int32))]))
    refine OGets.step (fun _ => XS.icmpYes X50.here hx rfl (pc0 := 24) (pc' := 29) rfl (hb hby dj43m22_24) rfl (tlt (by decide : (0 : Int32) < (4 : Int32))).1 (by decide) (by decide)) ?_
    show OGets p e below _ (T50.setTop (mkF m 29 #[.val (.ref b), .val (.int p0), .val (.int (0 : Int32)), .val (.int (4 : Int32))] []))
    refine OGets.step (fun _ => XS.aloadN X50.here hx rfl (hb hby dj43m22_29) rfl rfl) ?_
    show OGets p e below _ (T50.setTop (mkF m 30 #[.val (.ref b), .val (.int p0), .val (.int (0 : Int32)), .val (.int (4 : Int32))] [(.ref b)]))
    refine OGets.step (fun _ => XS.iloadN X50.here hx rfl (hb hby dj43m22_30) rfl) ?_
    show OGets p e below _ (T50.setTop (mkF m 31 #[.val (.ref b), .val (.int p0), .val (.int (0 : Int32)), .val (.int (4 : Int32))] [(.int p0), (.ref b)]))
    refine OGets.step (fun _ => XS.iloadN X50.here hx rfl (hb hby dj43m22_31) rfl) ?_
    show OGets p e below _ (T50.setTop (mkF m 32 #[.val (.ref b), .val (.int p0), .val (.int (0 : Int32)), .val (.int (4 : Int32))] [(.int (0 : Int32)), (.int p0), (.ref b)]))
    refine OGets.step (fun _ => XS.iloadN X50.here hx rfl (hb hby dj43m22_32) rfl) ?_
    show OGets p e below _ (T50.setTop (mkF m 33 #[.val (.ref b), .val (.int p0), .val (.int (0 : Int32)), .val (.int (4 : Int32))] [(.int (4 : Int32)), (.int (0 : Int32)), (.int p0), (.ref b)]))
    obtain ⟨_, _, ⟨T52, L52, k52, n52⟩, -, X52, ⟨Lc52, hQ52, l52, y52, z52⟩, st52⟩ := Jvm.LawKit.callS X50 hx (y := (⟨"java/lang/StringLatin1", "indexOfChar", "([BIII)I"⟩ : MethodName)) hown (mvT hZ (hw _ (List.mem_of_getElem? (i := 62) rfl))) (mvT hZ (hw _ (List.mem_of_getElem? (i := 63) rfl))) (mvT hZ (hw _ (List.mem_of_getElem? (i := 43) rfl))) (mvT hZ (hw _ (List.mem_of_getElem? (i := 64) rfl))) (by decide) (backOf (W := 0) (rm_chra l Z a0 hw [] b p0 h0 n0 (F) Z0  V0) hZ (hw _ (List.mem_of_getElem? (i := 64) rfl)) (hw _ (List.mem_of_getElem? (i := 43) rfl)) (by decide) (by decide)) (g := (mkF m 33 #[.val (.ref b), .val (.int p0), .val (.int (0 : Int32)), .val (.int (4 : Int32))] [(.int (4 : Int32)), (.int (0 : Int32)), (.int p0), (.ref b)])) rfl (by rw [hml]; rfl) (argsL := [(.ref b), (.int p0), (.int (0 : Int32)), (.int (4 : Int32))]) (rest := []) (lenOf pd_5 rfl) rfl (by show 2 * 0 + _ ≤ _; exact Nat.le_of_eq rfl) (hb hby dj43m22_33) (fun _ _ => ⟨rfl, e50, Nat.le_of_ble_eq_true rfl, Nat.le_of_ble_eq_true rfl⟩)
    dsimp only [Pt.U, Pt.locs, Pt.cells, Pt.slots] at X52 l52 y52 z52 st52 hQ52
    rw [l52, y52, z52] at X52
    obtain ⟨rfl, rfl, e52⟩ := hQ52
    have X52 : Stand p l e _ s m #[(.ref b), (.int p0), (.int (0 : Int32)), (.int (4 : Int32))] below meth c T52 [] 0 0 := X52
    refine OGets.step st52 ?_
    show OGets p e below _ (T52.setTop (mkF m 36 #[.val (.ref b), .val (.int p0), .val (.int (0 : Int32)), .val (.int (4 : Int32))] [(.int (f_chra p0))]))
    refine OGets.retI X52 hx hlk Bd.returns (hb hby dj43m22_36) (Nat.le_of_ble_eq_true rfl) (Nat.le_of_ble_eq_true rfl) ?_
    exact ⟨congrArg (fun z => some (Value.int z)) hv47.symm, rfl, e52⟩
theorem dj42m80_0 : decode jdk_42_method_80_code 0 = .ok (.aload_n 0, 1) := by decide +kernel
theorem dj42m80_1 : decode jdk_42_method_80_code 1 = .ok (.invokevirtual 492, 3) := by decide +kernel
theorem pd_6 : parseMethodDescriptor "()Z" = some ⟨[], some .boolean⟩ := by decide +kernel
theorem dj42m80_4 : decode jdk_42_method_80_code 4 = .ok (.ifCond .eq 19, 3) := by decide +kernel
theorem dj42m80_7 : decode jdk_42_method_80_code 7 = .ok (.aload_n 0, 1) := by decide +kernel
theorem dj42m80_8 : decode jdk_42_method_80_code 8 = .ok (.getfield 9, 3) := by decide +kernel
theorem dj42m80_11 : decode jdk_42_method_80_code 11 = .ok (.iload_n 1, 1) := by decide +kernel
theorem dj42m80_12 : decode jdk_42_method_80_code 12 = .ok (.iload_n 2, 1) := by decide +kernel
theorem dj42m80_13 : decode jdk_42_method_80_code 13 = .ok (.aload_n 0, 1) := by decide +kernel
theorem dj42m80_14 : decode jdk_42_method_80_code 14 = .ok (.invokevirtual 505, 3) := by decide +kernel
theorem pd_7 : parseMethodDescriptor "()I" = some ⟨[], some .int⟩ := by decide +kernel
theorem dj42m80_17 : decode jdk_42_method_80_code 17 = .ok (.invokestatic 637, 3) := by decide +kernel
theorem dj42m80_20 : decode jdk_42_method_80_code 20 = .ok (.goto 16, 3) := by decide +kernel
theorem dj42m80_36 : decode jdk_42_method_80_code 36 = .ok (.ireturn, 1) := by decide +kernel
theorem ef_ixxa (m : MethodId) (x0 : Addr) (x1 : Int32) (x2 : Int32) : entryFrame m #[(.ref x0), (.int x1), (.int x2)] 3 = mkF m 0 #[.val (.ref x0), .val (.int x1), .val (.int x2)] [] := by first | (simp [entryFrame, mkF, argsToLocals, Value.category]; done) | rfl
def Q_ixxa (Z : State) (a : Addr) (b : Addr) (G : Int32) (p0 : Int32) (h0 : Heap) (n0 : Nat) (F : List (Addr × OObj)) (v : Option Value) (h : Heap) (L : List Loc) : Prop := v = some (.int (f_lixa p0)) ∧ L = [] ∧ h = h0
set_option maxRecDepth 65536 in
set_option maxHeartbeats 40000000 in
theorem rm_ixxa (l : Launch) (Z : State) (a0 : Array Value) (hw : ∀ d ∈ tables_1, d.before a0 Z = true) (ws : List Jvm.Cond) (a : Addr) (b : Addr) (G : Int32) (p0 : Int32) (h0 : Heap) (n0 : Nat) (F : List (Addr × OObj)) (Z0 : n0 ≤ h0.size) (S0 : Sta Z h0 "java/lang/String" "COMPACT_STRINGS" "Z" (.int G)) (hG : ¬ G = (0 : Int32)) (V0 : OView Z n0 h0 (((a, Sum.inl ("java/lang/String", ns_String, [(.ref b), (.int (0 : Int32))])) : Addr × OObj) :: ((b, Sum.inr (.byte, [(.int (45 : Int32)), (.int (46 : Int32)), (.int (95 : Int32)), (.int (126 : Int32))])) : Addr × OObj) :: F)) :
    MetFree l (⟨"java/lang/String", "indexOf", "(II)I"⟩ : MethodName) (head1 (Jvm.Cond.code (⟨"java/lang/String", "indexOf", "(II)I"⟩ : MethodName) jdk_42_method_80_code 3 (some .int) :: ws) ({ frames := 2, cells := 0, slots := 0, locals := 32 } : Room)) (fun a_ U => a_ = #[(.ref a), (.int p0), (.int (0 : Int32))] ∧ Z.Warmed39 U.vm ∧ U.heap = h0) (fun _ _ _ _ _ => True) (fun _ U o U' => ∃ v L, o = .returned v ∧ Q_ixxa Z a b G p0 h0 n0 F v U'.heap L ∧ FrameEnd U o U' L ({ frames := 2, cells := 0, slots := 0, locals := 32 } : Room).cells ({ frames := 2, cells := 0, slots := 0, locals := 32 } : Room).slots) := by
  refine MetFree.of_bodySF (plainFor_of_name pn_1) hisR ?_
  intro p e s m args below meth c s₁ Bd hml0 hP hK
  obtain ⟨rfl, hZ, hh⟩ := hP
  have hx := Bd.exec
  have hby := Bd.bytes
  have hlk : meth.locks = false := Bd.notSynchronized
  have hml : c.maxLocals = 3 := hml0
  have hown : s.vm.findClass "java/lang/String" = some m.cls := findClass_of_methodNamed Bd.named
  have hnm := (name_of_methodNamed Bd.named Bd.method).1
  have X0 : Stand p l e ({ frames := 2, cells := 0, slots := 0, locals := 32 } : Room) s m #[(.ref a), (.int p0), (.int (0 : Int32))] below meth c s₁ [] 0 0 := Stand.of_body Bd
  have e0 : s₁.heap = h0 := by rw [← hh, Bd.state]; rfl
  have N0 := Fr.nil n0
  show OGets p e below (OLeaves s (Q_ixxa Z a b G p0 h0 n0 F ) ({ frames := 2, cells := 0, slots := 0, locals := 32 } : Room).cells ({ frames := 2, cells := 0, slots := 0, locals := 32 } : Room).slots) _
  refine OGets.enter (ef_ixxa m a p0 (0 : Int32)) ?_
  show OGets p e below _ (s₁.setTop (mkF m 0 #[.val (.ref a), .val (.int p0), .val (.int (0 : Int32))] []))
  refine OGets.step (fun _ => XS.aloadN X0.here hx rfl (hb hby dj42m80_0) rfl rfl) ?_
  show OGets p e below _ (s₁.setTop (mkF m 1 #[.val (.ref a), .val (.int p0), .val (.int (0 : Int32))] [(.ref a)]))
  have V53_1 := V0.bring 1 rfl
  have V53_1' : OView Z _ h0 (((b, Sum.inr (.byte, [(.int (45 : Int32)), (.int (46 : Int32)), (.int (95 : Int32)), (.int (126 : Int32))])) : Addr × OObj) :: ((a, Sum.inl ("java/lang/String", ns_String, [(.ref b), (.int (0 : Int32))])) : Addr × OObj) :: F) := V53_1
  have V53_1 := V53_1'.bring 1 rfl
  have V53_1' : OView Z _ h0 (((a, Sum.inl ("java/lang/String", ns_String, [(.ref b), (.int (0 : Int32))])) : Addr × OObj) :: ((b, Sum.inr (.byte, [(.int (45 : Int32)), (.int (46 : Int32)), (.int (95 : Int32)), (.int (126 : Int32))])) : Addr × OObj) :: F) := V53_1
  obtain ⟨cq53, kq53, q53a, q53b, q53c⟩ := isOf hZ e0 (V53_1'.exa 0 rfl)
  obtain ⟨_, _, ⟨T53, L53, k53, n53⟩, -, X53, ⟨Lc53, hQ53, l53, y53, z53⟩, st53⟩ := X0.virtualBack hx (y := (⟨"java/lang/String", "isLatin1", "()Z"⟩ : MethodName)) (z := (⟨"java/lang/String", "isLatin1", "()Z"⟩ : MethodName)) hown (mvT hZ (hw _ (List.mem_of_getElem? (i := 23) rfl))) (mvT hZ (hw _ (List.mem_of_getElem? (i := 24) rfl))) (notFace_of_selects (args := #[]) (mvT hZ (hw _ (List.mem_of_getElem? (i := 26) rfl)))) (mvT hZ (hw _ (List.mem_of_getElem? (i := 26) rfl))) (mvT hZ (hw _ (List.mem_of_getElem? (i := 25) rfl))) (by decide) (backOf (W := 0) (rm_isla l Z a0 hw [] a b G h0 n0 (F) Z0 S0 hG V53_1') hZ (hw _ (List.mem_of_getElem? (i := 27) rfl)) (hw _ (List.mem_of_getElem? (i := 6) rfl)) (by decide) (by decide)) q53a q53c (g := (mkF m 1 #[.val (.ref a), .val (.int p0), .val (.int (0 : Int32))] [(.ref a)])) rfl (by rw [hml]; rfl) (Steps.refl _) (argsL := []) (rest := []) (lenOf pd_6 rfl) rfl (by show 2 * 0 + _ ≤ _; exact Nat.le_of_eq rfl) (hb hby dj42m80_1) (fun _ _ => ⟨rfl, e0, Nat.le_of_ble_eq_true rfl, Nat.le_of_ble_eq_true rfl⟩)
  dsimp only [Pt.U, Pt.locs, Pt.cells, Pt.slots] at X53 l53 y53 z53 st53 hQ53
  rw [l53, y53, z53] at X53
  obtain ⟨rfl, rfl, e53⟩ := hQ53
  have X53 : Stand p l e _ s m #[(.ref a), (.int p0), (.int (0 : Int32))] below meth c T53 [] 0 0 := X53
  refine OGets.after st53 ?_
  show OGets p e below _ (T53.setTop (mkF m 4 #[.val (.ref a), .val (.int p0), .val (.int (0 : Int32))] [(.int (1 : Int32))]))
  refine OGets.step (fun _ => XS.ifNo X53.here hx rfl (hb hby dj42m80_4) rfl ((if0 _ _).trans (feq (by decide : ¬ ((1 : Int32) = (0 : Int32)))).1)) ?_
  show OGets p e below _ (T53.setTop (mkF m 7 #[.val (.ref a), .val (.int p0), .val (.int (0 : Int32))] []))
  refine OGets.step (fun _ => XS.aloadN X53.here hx rfl (hb hby dj42m80_7) rfl rfl) ?_
  show OGets p e below _ (T53.setTop (mkF m 8 #[.val (.ref a), .val (.int p0), .val (.int (0 : Int32))] [(.ref a)]))
  obtain ⟨T55, X55, e55, st55⟩ := getF X53 hx hZ hown (host := "") (Or.inl (hw _ (List.mem_of_getElem? (i := 30) rfl))) Via.refl e53 (V53_1'.fld 0 rfl 0 rfl rfl) (g := (mkF m 8 #[.val (.ref a), .val (.int p0), .val (.int (0 : Int32))] [(.ref a)])) rfl rfl (hb hby dj42m80_8)
  refine OGets.step st55 ?_
  show OGets p e below _ (T55.setTop (mkF m 11 #[.val (.ref a), .val (.int p0), .val (.int (0 : Int32))] [(.ref b)]))
  refine OGets.step (fun _ => XS.iloadN X55.here hx rfl (hb hby dj42m80_11) rfl) ?_
  show OGets p e below _ (T55.setTop (mkF m 12 #[.val (.ref a), .val (.int p0), .val (.int (0 : Int32))] [(.int p0), (.ref b)]))
  refine OGets.step (fun _ => XS.iloadN X55.here hx rfl (hb hby dj42m80_12) rfl) ?_
  show OGets p e below _ (T55.setTop (mkF m 13 #[.val (.ref a), .val (.int p0), .val (.int (0 : Int32))] [(.int (0 : Int32)), (.int p0), (.ref b)]))
  refine OGets.step (fun _ => XS.aloadN X55.here hx rfl (hb hby dj42m80_13) rfl rfl) ?_
  show OGets p e below _ (T55.setTop (mkF m 14 #[.val (.ref a), .val (.int p0), .val (.int (0 : Int32))] [(.ref a), (.int (0 : Int32)), (.int p0), (.ref b)]))
  have V56_1 := V53_1'.bring 1 rfl
  have V56_1' : OView Z _ h0 (((b, Sum.inr (.byte, [(.int (45 : Int32)), (.int (46 : Int32)), (.int (95 : Int32)), (.int (126 : Int32))])) : Addr × OObj) :: ((a, Sum.inl ("java/lang/String", ns_String, [(.ref b), (.int (0 : Int32))])) : Addr × OObj) :: F) := V56_1
  have V56_1 := V56_1'.bring 1 rfl
  have V56_1' : OView Z _ h0 (((a, Sum.inl ("java/lang/String", ns_String, [(.ref b), (.int (0 : Int32))])) : Addr × OObj) :: ((b, Sum.inr (.byte, [(.int (45 : Int32)), (.int (46 : Int32)), (.int (95 : Int32)), (.int (126 : Int32))])) : Addr × OObj) :: F) := V56_1
  obtain ⟨cq56, kq56, q56a, q56b, q56c⟩ := isOf hZ e55 (V56_1'.exa 0 rfl)
  obtain ⟨_, _, ⟨T56, L56, k56, n56⟩, -, X56, ⟨Lc56, hQ56, l56, y56, z56⟩, st56⟩ := X55.virtualBack hx (y := (⟨"java/lang/String", "length", "()I"⟩ : MethodName)) (z := (⟨"java/lang/String", "length", "()I"⟩ : MethodName)) hown (mvT hZ (hw _ (List.mem_of_getElem? (i := 31) rfl))) (mvT hZ (hw _ (List.mem_of_getElem? (i := 32) rfl))) (notFace_of_selects (args := #[]) (mvT hZ (hw _ (List.mem_of_getElem? (i := 34) rfl)))) (mvT hZ (hw _ (List.mem_of_getElem? (i := 34) rfl))) (mvT hZ (hw _ (List.mem_of_getElem? (i := 33) rfl))) (by decide) (backOf (W := 3) (rm_lena l Z a0 hw [] a b G h0 n0 (F) Z0 S0 hG V56_1') hZ (hw _ (List.mem_of_getElem? (i := 35) rfl)) (hw _ (List.mem_of_getElem? (i := 6) rfl)) (by decide) (by decide)) q56a q56c (g := (mkF m 14 #[.val (.ref a), .val (.int p0), .val (.int (0 : Int32))] [(.ref a), (.int (0 : Int32)), (.int p0), (.ref b)])) rfl (by rw [hml]; rfl) (Steps.refl _) (argsL := []) (rest := [(.int (0 : Int32)), (.int p0), (.ref b)]) (lenOf pd_7 rfl) rfl (by show 2 * 0 + _ ≤ _; exact Nat.le_of_eq rfl) (hb hby dj42m80_14) (fun _ _ => ⟨rfl, e55, Nat.le_of_ble_eq_true rfl, Nat.le_of_ble_eq_true rfl⟩)
  dsimp only [Pt.U, Pt.locs, Pt.cells, Pt.slots] at X56 l56 y56 z56 st56 hQ56
  rw [l56, y56, z56] at X56
  obtain ⟨rfl, rfl, e56⟩ := hQ56
  have X56 : Stand p l e _ s m #[(.ref a), (.int p0), (.int (0 : Int32))] below meth c T56 [] 0 0 := X56
  refine OGets.after st56 ?_
  show OGets p e below _ (T56.setTop (mkF m 17 #[.val (.ref a), .val (.int p0), .val (.int (0 : Int32))] [(.int (4 : Int32)), (.int (0 : Int32)), (.int p0), (.ref b)]))
  have V57_1 := V56_1'.bring 1 rfl
  have V57_1' : OView Z _ h0 (((b, Sum.inr (.byte, [(.int (45 : Int32)), (.int (46 : Int32)), (.int (95 : Int32)), (.int (126 : Int32))])) : Addr × OObj) :: ((a, Sum.inl ("java/lang/String", ns_String, [(.ref b), (.int (0 : Int32))])) : Addr × OObj) :: F) := V57_1
  obtain ⟨_, _, ⟨T57, L57, k57, n57⟩, -, X57, ⟨Lc57, hQ57, l57, y57, z57⟩, st57⟩ := Jvm.LawKit.callS X56 hx (y := (⟨"java/lang/StringLatin1", "indexOf", "([BIII)I"⟩ : MethodName)) hown (mvT hZ (hw _ (List.mem_of_getElem? (i := 41) rfl))) (mvT hZ (hw _ (List.mem_of_getElem? (i := 42) rfl))) (mvT hZ (hw _ (List.mem_of_getElem? (i := 43) rfl))) (mvT hZ (hw _ (List.mem_of_getElem? (i := 44) rfl))) (by decide) (backOf (W := 0) (rm_lixa l Z a0 hw [] b p0 h0 n0 (((a, Sum.inl ("java/lang/String", ns_String, [(.ref b), (.int (0 : Int32))])) : Addr × OObj) :: F) Z0  V57_1') hZ (hw _ (List.mem_of_getElem? (i := 44) rfl)) (hw _ (List.mem_of_getElem? (i := 43) rfl)) (by decide) (by decide)) (g := (mkF m 17 #[.val (.ref a), .val (.int p0), .val (.int (0 : Int32))] [(.int (4 : Int32)), (.int (0 : Int32)), (.int p0), (.ref b)])) rfl (by rw [hml]; rfl) (argsL := [(.ref b), (.int p0), (.int (0 : Int32)), (.int (4 : Int32))]) (rest := []) (lenOf pd_5 rfl) rfl (by show 2 * 0 + _ ≤ _; exact Nat.le_of_eq rfl) (hb hby dj42m80_17) (fun _ _ => ⟨rfl, e56, Nat.le_of_ble_eq_true rfl, Nat.le_of_ble_eq_true rfl⟩)
  dsimp only [Pt.U, Pt.locs, Pt.cells, Pt.slots] at X57 l57 y57 z57 st57 hQ57
  rw [l57, y57, z57] at X57
  obtain ⟨rfl, rfl, e57⟩ := hQ57
  have X57 : Stand p l e _ s m #[(.ref a), (.int p0), (.int (0 : Int32))] below meth c T57 [] 0 0 := X57
  refine OGets.step st57 ?_
  show OGets p e below _ (T57.setTop (mkF m 20 #[.val (.ref a), .val (.int p0), .val (.int (0 : Int32))] [(.int (f_lixa p0))]))
  refine OGets.step (fun _ => XS.goto X57.here hx rfl (pc0 := 20) (pc' := 36) rfl (hb hby dj42m80_20) (by decide) (by decide)) ?_
  show OGets p e below _ (T57.setTop (mkF m 36 #[.val (.ref a), .val (.int p0), .val (.int (0 : Int32))] [(.int (f_lixa p0))]))
  refine OGets.retI X57 hx hlk Bd.returns (hb hby dj42m80_36) (Nat.le_of_ble_eq_true rfl) (Nat.le_of_ble_eq_true rfl) ?_
  exact ⟨rfl, rfl, e57⟩
theorem dj42m79_0 : decode jdk_42_method_79_code 0 = .ok (.aload_n 0, 1) := by decide +kernel
theorem dj42m79_1 : decode jdk_42_method_79_code 1 = .ok (.iload_n 1, 1) := by decide +kernel
theorem dj42m79_2 : decode jdk_42_method_79_code 2 = .ok (.iconst 0, 1) := by decide +kernel
theorem dj42m79_3 : decode jdk_42_method_79_code 3 = .ok (.invokevirtual 633, 3) := by decide +kernel
theorem dj42m79_6 : decode jdk_42_method_79_code 6 = .ok (.ireturn, 1) := by decide +kernel
theorem ef_ixa (m : MethodId) (x0 : Addr) (x1 : Int32) : entryFrame m #[(.ref x0), (.int x1)] 2 = mkF m 0 #[.val (.ref x0), .val (.int x1)] [] := by first | (simp [entryFrame, mkF, argsToLocals, Value.category]; done) | rfl
def Q_ixa (Z : State) (a : Addr) (b : Addr) (G : Int32) (p0 : Int32) (h0 : Heap) (n0 : Nat) (F : List (Addr × OObj)) (v : Option Value) (h : Heap) (L : List Loc) : Prop := v = some (.int (f_lixa p0)) ∧ L = [] ∧ h = h0
set_option maxRecDepth 65536 in
set_option maxHeartbeats 40000000 in
theorem rm_ixa (l : Launch) (Z : State) (a0 : Array Value) (hw : ∀ d ∈ tables_1, d.before a0 Z = true) (ws : List Jvm.Cond) (a : Addr) (b : Addr) (G : Int32) (p0 : Int32) (h0 : Heap) (n0 : Nat) (F : List (Addr × OObj)) (Z0 : n0 ≤ h0.size) (S0 : Sta Z h0 "java/lang/String" "COMPACT_STRINGS" "Z" (.int G)) (hG : ¬ G = (0 : Int32)) (V0 : OView Z n0 h0 (((a, Sum.inl ("java/lang/String", ns_String, [(.ref b), (.int (0 : Int32))])) : Addr × OObj) :: ((b, Sum.inr (.byte, [(.int (45 : Int32)), (.int (46 : Int32)), (.int (95 : Int32)), (.int (126 : Int32))])) : Addr × OObj) :: F)) :
    MetFree l (⟨"java/lang/String", "indexOf", "(I)I"⟩ : MethodName) (head1 (Jvm.Cond.code (⟨"java/lang/String", "indexOf", "(I)I"⟩ : MethodName) jdk_42_method_79_code 2 (some .int) :: ws) ({ frames := 3, cells := 0, slots := 0, locals := 46 } : Room)) (fun a_ U => a_ = #[(.ref a), (.int p0)] ∧ Z.Warmed39 U.vm ∧ U.heap = h0) (fun _ _ _ _ _ => True) (fun _ U o U' => ∃ v L, o = .returned v ∧ Q_ixa Z a b G p0 h0 n0 F v U'.heap L ∧ FrameEnd U o U' L ({ frames := 3, cells := 0, slots := 0, locals := 46 } : Room).cells ({ frames := 3, cells := 0, slots := 0, locals := 46 } : Room).slots) := by
  refine MetFree.of_bodySF (plainFor_of_name pn_1) hisR ?_
  intro p e s m args below meth c s₁ Bd hml0 hP hK
  obtain ⟨rfl, hZ, hh⟩ := hP
  have hx := Bd.exec
  have hby := Bd.bytes
  have hlk : meth.locks = false := Bd.notSynchronized
  have hml : c.maxLocals = 2 := hml0
  have hown : s.vm.findClass "java/lang/String" = some m.cls := findClass_of_methodNamed Bd.named
  have hnm := (name_of_methodNamed Bd.named Bd.method).1
  have X0 : Stand p l e ({ frames := 3, cells := 0, slots := 0, locals := 46 } : Room) s m #[(.ref a), (.int p0)] below meth c s₁ [] 0 0 := Stand.of_body Bd
  have e0 : s₁.heap = h0 := by rw [← hh, Bd.state]; rfl
  have N0 := Fr.nil n0
  show OGets p e below (OLeaves s (Q_ixa Z a b G p0 h0 n0 F ) ({ frames := 3, cells := 0, slots := 0, locals := 46 } : Room).cells ({ frames := 3, cells := 0, slots := 0, locals := 46 } : Room).slots) _
  refine OGets.enter (ef_ixa m a p0) ?_
  show OGets p e below _ (s₁.setTop (mkF m 0 #[.val (.ref a), .val (.int p0)] []))
  refine OGets.step (fun _ => XS.aloadN X0.here hx rfl (hb hby dj42m79_0) rfl rfl) ?_
  show OGets p e below _ (s₁.setTop (mkF m 1 #[.val (.ref a), .val (.int p0)] [(.ref a)]))
  refine OGets.step (fun _ => XS.iloadN X0.here hx rfl (hb hby dj42m79_1) rfl) ?_
  show OGets p e below _ (s₁.setTop (mkF m 2 #[.val (.ref a), .val (.int p0)] [(.int p0), (.ref a)]))
  refine OGets.step (fun _ => XS.iconst X0.here hx rfl (hb hby dj42m79_2)) ?_
  show OGets p e below _ (s₁.setTop (mkF m 3 #[.val (.ref a), .val (.int p0)] [(.int (0 : Int32)), (.int p0), (.ref a)]))
  have V58_1 := V0.bring 1 rfl
  have V58_1' : OView Z _ h0 (((b, Sum.inr (.byte, [(.int (45 : Int32)), (.int (46 : Int32)), (.int (95 : Int32)), (.int (126 : Int32))])) : Addr × OObj) :: ((a, Sum.inl ("java/lang/String", ns_String, [(.ref b), (.int (0 : Int32))])) : Addr × OObj) :: F) := V58_1
  have V58_1 := V58_1'.bring 1 rfl
  have V58_1' : OView Z _ h0 (((a, Sum.inl ("java/lang/String", ns_String, [(.ref b), (.int (0 : Int32))])) : Addr × OObj) :: ((b, Sum.inr (.byte, [(.int (45 : Int32)), (.int (46 : Int32)), (.int (95 : Int32)), (.int (126 : Int32))])) : Addr × OObj) :: F) := V58_1
  obtain ⟨cq58, kq58, q58a, q58b, q58c⟩ := isOf hZ e0 (V58_1'.exa 0 rfl)
  obtain ⟨_, _, ⟨T58, L58, k58, n58⟩, -, X58, ⟨Lc58, hQ58, l58, y58, z58⟩, st58⟩ := X0.virtualBack hx (y := (⟨"java/lang/String", "indexOf", "(II)I"⟩ : MethodName)) (z := (⟨"java/lang/String", "indexOf", "(II)I"⟩ : MethodName)) hown (mvT hZ (hw _ (List.mem_of_getElem? (i := 18) rfl))) (mvT hZ (hw _ (List.mem_of_getElem? (i := 19) rfl))) (notFace_of_selects (args := #[]) (mvT hZ (hw _ (List.mem_of_getElem? (i := 21) rfl)))) (mvT hZ (hw _ (List.mem_of_getElem? (i := 21) rfl))) (mvT hZ (hw _ (List.mem_of_getElem? (i := 20) rfl))) (by decide) (backOf (W := 0) (rm_ixxa l Z a0 hw [] a b G p0 h0 n0 (F) Z0 S0 hG V58_1') hZ (hw _ (List.mem_of_getElem? (i := 22) rfl)) (hw _ (List.mem_of_getElem? (i := 6) rfl)) (by decide) (by decide)) q58a q58c (g := (mkF m 3 #[.val (.ref a), .val (.int p0)] [(.int (0 : Int32)), (.int p0), (.ref a)])) rfl (by rw [hml]; rfl) (Steps.refl _) (argsL := [(.int p0), (.int (0 : Int32))]) (rest := []) (lenOf pd_4 rfl) rfl (by show 2 * 0 + _ ≤ _; exact Nat.le_of_eq rfl) (hb hby dj42m79_3) (fun _ _ => ⟨rfl, e0, Nat.le_of_ble_eq_true rfl, Nat.le_of_ble_eq_true rfl⟩)
  dsimp only [Pt.U, Pt.locs, Pt.cells, Pt.slots] at X58 l58 y58 z58 st58 hQ58
  rw [l58, y58, z58] at X58
  obtain ⟨rfl, rfl, e58⟩ := hQ58
  have X58 : Stand p l e _ s m #[(.ref a), (.int p0)] below meth c T58 [] 0 0 := X58
  refine OGets.after st58 ?_
  show OGets p e below _ (T58.setTop (mkF m 6 #[.val (.ref a), .val (.int p0)] [(.int (f_lixa p0))]))
  refine OGets.retI X58 hx hlk Bd.returns (hb hby dj42m79_6) (Nat.le_of_ble_eq_true rfl) (Nat.le_of_ble_eq_true rfl) ?_
  exact ⟨rfl, rfl, e58⟩
theorem own_ext0 (h : Heap) : Ext h h := ⟨Nat.le_refl _, fun _ _ q => q⟩
theorem own_ext {h h1 h2 : Heap} (A : Ext h h1) (B : Ext h1 h2) : Ext h h2 := ⟨Nat.le_trans A.1 B.1, fun a c q => B.2 a c (A.2 a c q)⟩
def f_inr_14 (p0 : Int32) (p1 : Int32) (p2 : Int32) : Int32 := (0 : Int32)
def f_inr (p0 : Int32) (p1 : Int32) (p2 : Int32) : Int32 := (if p0 < p1 then f_inr_14 p0 p1 p2 else (if p2 < p0 then f_inr_14 p0 p1 p2 else (1 : Int32)))
theorem dm2_14 : decode method_2_code 14 = .ok (.iconst 0, 1) := by decide +kernel
theorem dm2_15 : decode method_2_code 15 = .ok (.ireturn, 1) := by decide +kernel
theorem pn_8 : plainName "com/example/hermod/hermod/PercentEncodingIsUnreservedPinLaw" = true := by first | (simp [plainName, overriddenIn]; done) | decide +kernel
theorem dm2_0 : decode method_2_code 0 = .ok (.iload_n 1, 1) := by decide +kernel
theorem dm2_1 : decode method_2_code 1 = .ok (.iload_n 0, 1) := by decide +kernel
theorem dm2_2 : decode method_2_code 2 = .ok (.if_icmp .gt 12, 3) := by decide +kernel
theorem dm2_5 : decode method_2_code 5 = .ok (.iload_n 0, 1) := by decide +kernel
theorem dm2_6 : decode method_2_code 6 = .ok (.iload_n 2, 1) := by decide +kernel
theorem dm2_7 : decode method_2_code 7 = .ok (.if_icmp .gt 7, 3) := by decide +kernel
theorem dm2_10 : decode method_2_code 10 = .ok (.iconst 1, 1) := by decide +kernel
theorem dm2_11 : decode method_2_code 11 = .ok (.goto 4, 3) := by decide +kernel
theorem ef_inr (m : MethodId) (x0 : Int32) (x1 : Int32) (x2 : Int32) : entryFrame m #[(.int x0), (.int x1), (.int x2)] 3 = mkF m 0 #[.val (.int x0), .val (.int x1), .val (.int x2)] [] := by first | (simp [entryFrame, mkF, argsToLocals, Value.category]; done) | rfl
def Q_inr (Z : State) (p0 : Int32) (p1 : Int32) (p2 : Int32) (h0 : Heap) (n0 : Nat) (v : Option Value) (h : Heap) (L : List Loc) : Prop := v = some (.int (f_inr p0 p1 p2)) ∧ L = [] ∧ h = h0
set_option maxRecDepth 65536 in
set_option maxHeartbeats 40000000 in
theorem rm_inr (l : Launch) (Z : State) (a0 : Array Value) (hw : ∀ d ∈ tables_1, d.before a0 Z = true) (ws : List Jvm.Cond) (p0 : Int32) (p1 : Int32) (p2 : Int32) (h0 : Heap) (n0 : Nat) (Z0 : n0 ≤ h0.size) :
    MetFree l (⟨"com/example/hermod/hermod/PercentEncodingIsUnreservedPinLaw", "inRange", "(III)Z"⟩ : MethodName) (head1 (Jvm.Cond.code (⟨"com/example/hermod/hermod/PercentEncodingIsUnreservedPinLaw", "inRange", "(III)Z"⟩ : MethodName) method_2_code 3 (some .boolean) :: ws) ({ frames := 0, cells := 0, slots := 0, locals := 0 } : Room)) (fun a_ U => a_ = #[(.int p0), (.int p1), (.int p2)] ∧ Z.Warmed39 U.vm ∧ U.heap = h0) (fun _ _ _ _ _ => True) (fun _ U o U' => ∃ v L, o = .returned v ∧ Q_inr Z p0 p1 p2 h0 n0 v U'.heap L ∧ FrameEnd U o U' L ({ frames := 0, cells := 0, slots := 0, locals := 0 } : Room).cells ({ frames := 0, cells := 0, slots := 0, locals := 0 } : Room).slots) := by
  refine MetFree.of_bodySF (plainFor_of_name pn_8) hisR ?_
  intro p e s m args below meth c s₁ Bd hml0 hP hK
  obtain ⟨rfl, hZ, hh⟩ := hP
  have hx := Bd.exec
  have hby := Bd.bytes
  have hlk : meth.locks = false := Bd.notSynchronized
  have hml : c.maxLocals = 3 := hml0
  have hown : s.vm.findClass "com/example/hermod/hermod/PercentEncodingIsUnreservedPinLaw" = some m.cls := findClass_of_methodNamed Bd.named
  have hnm := (name_of_methodNamed Bd.named Bd.method).1
  have X0 : Stand p l e ({ frames := 0, cells := 0, slots := 0, locals := 0 } : Room) s m #[(.int p0), (.int p1), (.int p2)] below meth c s₁ [] 0 0 := Stand.of_body Bd
  have e0 : s₁.heap = h0 := by rw [← hh, Bd.state]; rfl
  have N0 := Fr.nil n0
  have J14 : ∀ (T : State), Stand p l e ({ frames := 0, cells := 0, slots := 0, locals := 0 } : Room) s m #[(.int p0), (.int p1), (.int p2)] below meth c T [] 0 0 → T.heap = h0 → f_inr p0 p1 p2 = f_inr_14 p0 p1 p2 → OGets p e below (OLeaves s (Q_inr Z p0 p1 p2 h0 n0 ) ({ frames := 0, cells := 0, slots := 0, locals := 0 } : Room).cells ({ frames := 0, cells := 0, slots := 0, locals := 0 } : Room).slots) (T.setTop (mkF m 14 #[.val (.int p0), .val (.int p1), .val (.int p2)] [])) := by
    intro T X eT hv'
    have hv : f_inr p0 p1 p2 = (0 : Int32) := hv'
    show OGets p e below _ (T.setTop (mkF m 14 #[.val (.int p0), .val (.int p1), .val (.int p2)] []))
    refine OGets.step (fun _ => XS.iconst X.here hx rfl (hb hby dm2_14)) ?_
    show OGets p e below _ (T.setTop (mkF m 15 #[.val (.int p0), .val (.int p1), .val (.int p2)] [(.int (0 : Int32))]))
    refine OGets.retN X hx hlk (t := .boolean) Bd.returns (by simp) (hb hby dm2_15) (Nat.le_of_ble_eq_true rfl) (Nat.le_of_ble_eq_true rfl) ?_
    exact ⟨congrArg (fun z => some (Value.int z)) hv.symm, rfl, eT⟩
  have hv0 : f_inr p0 p1 p2 = (if p0 < p1 then f_inr_14 p0 p1 p2 else (if p2 < p0 then f_inr_14 p0 p1 p2 else (1 : Int32))) := rfl
  show OGets p e below (OLeaves s (Q_inr Z p0 p1 p2 h0 n0 ) ({ frames := 0, cells := 0, slots := 0, locals := 0 } : Room).cells ({ frames := 0, cells := 0, slots := 0, locals := 0 } : Room).slots) _
  refine OGets.enter (ef_inr m p0 p1 p2) ?_
  show OGets p e below _ (s₁.setTop (mkF m 0 #[.val (.int p0), .val (.int p1), .val (.int p2)] []))
  refine OGets.step (fun _ => XS.iloadN X0.here hx rfl (hb hby dm2_0) rfl) ?_
  show OGets p e below _ (s₁.setTop (mkF m 1 #[.val (.int p0), .val (.int p1), .val (.int p2)] [(.int p1)]))
  refine OGets.step (fun _ => XS.iloadN X0.here hx rfl (hb hby dm2_1) rfl) ?_
  show OGets p e below _ (s₁.setTop (mkF m 2 #[.val (.int p0), .val (.int p1), .val (.int p2)] [(.int p0), (.int p1)]))
  by_cases hc2_59 : p0 < p1
  · refine OGets.step (fun _ => XS.icmpYes X0.here hx rfl (pc0 := 2) (pc' := 14) rfl (hb hby dm2_2) rfl (tlt hc2_59).2.2.1 (by decide) (by decide)) ?_
    have hv60 := hv0.trans (if_pos hc2_59)
    show OGets p e below _ (s₁.setTop (mkF m 14 #[.val (.int p0), .val (.int p1), .val (.int p2)] []))
    exact J14 s₁ X0 e0 hv60
  · refine OGets.step (fun _ => XS.icmpNo X0.here hx rfl (hb hby dm2_2) rfl (flt hc2_59).2.2.1) ?_
    have hv61 := hv0.trans (if_neg hc2_59)
    show OGets p e below _ (s₁.setTop (mkF m 5 #[.val (.int p0), .val (.int p1), .val (.int p2)] []))
    refine OGets.step (fun _ => XS.iloadN X0.here hx rfl (hb hby dm2_5) rfl) ?_
    show OGets p e below _ (s₁.setTop (mkF m 6 #[.val (.int p0), .val (.int p1), .val (.int p2)] [(.int p0)]))
    refine OGets.step (fun _ => XS.iloadN X0.here hx rfl (hb hby dm2_6) rfl) ?_
    show OGets p e below _ (s₁.setTop (mkF m 7 #[.val (.int p0), .val (.int p1), .val (.int p2)] [(.int p2), (.int p0)]))
    by_cases hc7_62 : p2 < p0
    · refine OGets.step (fun _ => XS.icmpYes X0.here hx rfl (pc0 := 7) (pc' := 14) rfl (hb hby dm2_7) rfl (tlt hc7_62).2.2.1 (by decide) (by decide)) ?_
      have hv63 := hv61.trans (if_pos hc7_62)
      show OGets p e below _ (s₁.setTop (mkF m 14 #[.val (.int p0), .val (.int p1), .val (.int p2)] []))
      exact J14 s₁ X0 e0 hv63
    · refine OGets.step (fun _ => XS.icmpNo X0.here hx rfl (hb hby dm2_7) rfl (flt hc7_62).2.2.1) ?_
      have hv64 := hv61.trans (if_neg hc7_62)
      show OGets p e below _ (s₁.setTop (mkF m 10 #[.val (.int p0), .val (.int p1), .val (.int p2)] []))
      refine OGets.step (fun _ => XS.iconst X0.here hx rfl (hb hby dm2_10)) ?_
      show OGets p e below _ (s₁.setTop (mkF m 11 #[.val (.int p0), .val (.int p1), .val (.int p2)] [(.int (1 : Int32))]))
      refine OGets.step (fun _ => XS.goto X0.here hx rfl (pc0 := 11) (pc' := 15) rfl (hb hby dm2_11) (by decide) (by decide)) ?_
      show OGets p e below _ (s₁.setTop (mkF m 15 #[.val (.int p0), .val (.int p1), .val (.int p2)] [(.int (1 : Int32))]))
      refine OGets.retN X0 hx hlk (t := .boolean) Bd.returns (by simp) (hb hby dm2_15) (Nat.le_of_ble_eq_true rfl) (Nat.le_of_ble_eq_true rfl) ?_
      exact ⟨congrArg (fun z => some (Value.int z)) hv64.symm, rfl, e0⟩
def f_expd_63 (p0 : Int32) : Int32 := (1 : Int32)
def f_expd (p0 : Int32) : Int32 := (if (f_inr p0 (48 : Int32) (57 : Int32)) = (0 : Int32) then (if (f_inr p0 (65 : Int32) (90 : Int32)) = (0 : Int32) then (if (f_inr p0 (97 : Int32) (122 : Int32)) = (0 : Int32) then (if p0 = (45 : Int32) then f_expd_63 p0 else (if p0 = (46 : Int32) then f_expd_63 p0 else (if p0 = (95 : Int32) then f_expd_63 p0 else (if p0 = (126 : Int32) then f_expd_63 p0 else (0 : Int32))))) else (1 : Int32)) else (1 : Int32)) else (1 : Int32))
theorem dm3_63 : decode method_3_code 63 = .ok (.iconst 1, 1) := by decide +kernel
theorem dm3_64 : decode method_3_code 64 = .ok (.ireturn, 1) := by decide +kernel
theorem dm3_0 : decode method_3_code 0 = .ok (.iload_n 0, 1) := by decide +kernel
theorem dm3_1 : decode method_3_code 1 = .ok (.bipush 48, 2) := by decide +kernel
theorem dm3_3 : decode method_3_code 3 = .ok (.bipush 57, 2) := by decide +kernel
theorem dm3_5 : decode method_3_code 5 = .ok (.invokestatic 7, 3) := by decide +kernel
theorem pd_9 : parseMethodDescriptor "(III)Z" = some ⟨[.int, .int, .int], some .boolean⟩ := by decide +kernel
theorem dm3_8 : decode method_3_code 8 = .ok (.ifCond .eq 5, 3) := by decide +kernel
theorem dm3_13 : decode method_3_code 13 = .ok (.iload_n 0, 1) := by decide +kernel
theorem dm3_14 : decode method_3_code 14 = .ok (.bipush 65, 2) := by decide +kernel
theorem dm3_16 : decode method_3_code 16 = .ok (.bipush 90, 2) := by decide +kernel
theorem dm3_18 : decode method_3_code 18 = .ok (.invokestatic 7, 3) := by decide +kernel
theorem dm3_21 : decode method_3_code 21 = .ok (.ifCond .eq 5, 3) := by decide +kernel
theorem dm3_26 : decode method_3_code 26 = .ok (.iload_n 0, 1) := by decide +kernel
theorem dm3_27 : decode method_3_code 27 = .ok (.bipush 97, 2) := by decide +kernel
theorem dm3_29 : decode method_3_code 29 = .ok (.bipush 122, 2) := by decide +kernel
theorem dm3_31 : decode method_3_code 31 = .ok (.invokestatic 7, 3) := by decide +kernel
theorem dm3_34 : decode method_3_code 34 = .ok (.ifCond .eq 5, 3) := by decide +kernel
theorem dm3_39 : decode method_3_code 39 = .ok (.iload_n 0, 1) := by decide +kernel
theorem dm3_40 : decode method_3_code 40 = .ok (.bipush 45, 2) := by decide +kernel
theorem dm3_42 : decode method_3_code 42 = .ok (.if_icmp .eq 21, 3) := by decide +kernel
theorem dm3_45 : decode method_3_code 45 = .ok (.iload_n 0, 1) := by decide +kernel
theorem dm3_46 : decode method_3_code 46 = .ok (.bipush 46, 2) := by decide +kernel
theorem dm3_48 : decode method_3_code 48 = .ok (.if_icmp .eq 15, 3) := by decide +kernel
theorem dm3_51 : decode method_3_code 51 = .ok (.iload_n 0, 1) := by decide +kernel
theorem dm3_52 : decode method_3_code 52 = .ok (.bipush 95, 2) := by decide +kernel
theorem dm3_54 : decode method_3_code 54 = .ok (.if_icmp .eq 9, 3) := by decide +kernel
theorem dm3_57 : decode method_3_code 57 = .ok (.iload_n 0, 1) := by decide +kernel
theorem dm3_58 : decode method_3_code 58 = .ok (.bipush 126, 2) := by decide +kernel
theorem dm3_60 : decode method_3_code 60 = .ok (.if_icmp .ne 5, 3) := by decide +kernel
theorem dm3_65 : decode method_3_code 65 = .ok (.iconst 0, 1) := by decide +kernel
theorem dm3_66 : decode method_3_code 66 = .ok (.ireturn, 1) := by decide +kernel
theorem dm3_37 : decode method_3_code 37 = .ok (.iconst 1, 1) := by decide +kernel
theorem dm3_38 : decode method_3_code 38 = .ok (.ireturn, 1) := by decide +kernel
theorem dm3_24 : decode method_3_code 24 = .ok (.iconst 1, 1) := by decide +kernel
theorem dm3_25 : decode method_3_code 25 = .ok (.ireturn, 1) := by decide +kernel
theorem dm3_11 : decode method_3_code 11 = .ok (.iconst 1, 1) := by decide +kernel
theorem dm3_12 : decode method_3_code 12 = .ok (.ireturn, 1) := by decide +kernel
theorem ef_expd (m : MethodId) (x0 : Int32) : entryFrame m #[(.int x0)] 1 = mkF m 0 #[.val (.int x0)] [] := by first | (simp [entryFrame, mkF, argsToLocals, Value.category]; done) | rfl
def Q_expd (Z : State) (p0 : Int32) (h0 : Heap) (n0 : Nat) (v : Option Value) (h : Heap) (L : List Loc) : Prop := v = some (.int (f_expd p0)) ∧ L = [] ∧ h = h0
set_option maxRecDepth 65536 in
set_option maxHeartbeats 40000000 in
theorem rm_expd (l : Launch) (Z : State) (a0 : Array Value) (hw : ∀ d ∈ tables_1, d.before a0 Z = true) (ws : List Jvm.Cond) (p0 : Int32) (h0 : Heap) (n0 : Nat) (Z0 : n0 ≤ h0.size) :
    MetFree l (⟨"com/example/hermod/hermod/PercentEncodingIsUnreservedPinLaw", "expected", "(I)Z"⟩ : MethodName) (head1 (Jvm.Cond.code (⟨"com/example/hermod/hermod/PercentEncodingIsUnreservedPinLaw", "expected", "(I)Z"⟩ : MethodName) method_3_code 1 (some .boolean) :: ws) ({ frames := 1, cells := 0, slots := 0, locals := 14 } : Room)) (fun a_ U => a_ = #[(.int p0)] ∧ Z.Warmed39 U.vm ∧ U.heap = h0) (fun _ _ _ _ _ => True) (fun _ U o U' => ∃ v L, o = .returned v ∧ Q_expd Z p0 h0 n0 v U'.heap L ∧ FrameEnd U o U' L ({ frames := 1, cells := 0, slots := 0, locals := 14 } : Room).cells ({ frames := 1, cells := 0, slots := 0, locals := 14 } : Room).slots) := by
  refine MetFree.of_bodySF (plainFor_of_name pn_8) hisR ?_
  intro p e s m args below meth c s₁ Bd hml0 hP hK
  obtain ⟨rfl, hZ, hh⟩ := hP
  have hx := Bd.exec
  have hby := Bd.bytes
  have hlk : meth.locks = false := Bd.notSynchronized
  have hml : c.maxLocals = 1 := hml0
  have hown : s.vm.findClass "com/example/hermod/hermod/PercentEncodingIsUnreservedPinLaw" = some m.cls := findClass_of_methodNamed Bd.named
  have hnm := (name_of_methodNamed Bd.named Bd.method).1
  have X0 : Stand p l e ({ frames := 1, cells := 0, slots := 0, locals := 14 } : Room) s m #[(.int p0)] below meth c s₁ [] 0 0 := Stand.of_body Bd
  have e0 : s₁.heap = h0 := by rw [← hh, Bd.state]; rfl
  have N0 := Fr.nil n0
  have J63 : ∀ (T : State), Stand p l e ({ frames := 1, cells := 0, slots := 0, locals := 14 } : Room) s m #[(.int p0)] below meth c T [] 0 0 → T.heap = h0 → f_expd p0 = f_expd_63 p0 → OGets p e below (OLeaves s (Q_expd Z p0 h0 n0 ) ({ frames := 1, cells := 0, slots := 0, locals := 14 } : Room).cells ({ frames := 1, cells := 0, slots := 0, locals := 14 } : Room).slots) (T.setTop (mkF m 63 #[.val (.int p0)] [])) := by
    intro T X eT hv'
    have hv : f_expd p0 = (1 : Int32) := hv'
    show OGets p e below _ (T.setTop (mkF m 63 #[.val (.int p0)] []))
    refine OGets.step (fun _ => XS.iconst X.here hx rfl (hb hby dm3_63)) ?_
    show OGets p e below _ (T.setTop (mkF m 64 #[.val (.int p0)] [(.int (1 : Int32))]))
    refine OGets.retN X hx hlk (t := .boolean) Bd.returns (by simp) (hb hby dm3_64) (Nat.le_of_ble_eq_true rfl) (Nat.le_of_ble_eq_true rfl) ?_
    exact ⟨congrArg (fun z => some (Value.int z)) hv.symm, rfl, eT⟩
  have hv0 : f_expd p0 = (if (f_inr p0 (48 : Int32) (57 : Int32)) = (0 : Int32) then (if (f_inr p0 (65 : Int32) (90 : Int32)) = (0 : Int32) then (if (f_inr p0 (97 : Int32) (122 : Int32)) = (0 : Int32) then (if p0 = (45 : Int32) then f_expd_63 p0 else (if p0 = (46 : Int32) then f_expd_63 p0 else (if p0 = (95 : Int32) then f_expd_63 p0 else (if p0 = (126 : Int32) then f_expd_63 p0 else (0 : Int32))))) else (1 : Int32)) else (1 : Int32)) else (1 : Int32)) := rfl
  show OGets p e below (OLeaves s (Q_expd Z p0 h0 n0 ) ({ frames := 1, cells := 0, slots := 0, locals := 14 } : Room).cells ({ frames := 1, cells := 0, slots := 0, locals := 14 } : Room).slots) _
  refine OGets.enter (ef_expd m p0) ?_
  show OGets p e below _ (s₁.setTop (mkF m 0 #[.val (.int p0)] []))
  refine OGets.step (fun _ => XS.iloadN X0.here hx rfl (hb hby dm3_0) rfl) ?_
  show OGets p e below _ (s₁.setTop (mkF m 1 #[.val (.int p0)] [(.int p0)]))
  refine OGets.step (fun _ => XS.bipush X0.here hx rfl (hb hby dm3_1)) ?_
  show OGets p e below _ (s₁.setTop (mkF m 3 #[.val (.int p0)] [(.int (48 : Int32)), (.int p0)]))
  refine OGets.step (fun _ => XS.bipush X0.here hx rfl (hb hby dm3_3)) ?_
  show OGets p e below _ (s₁.setTop (mkF m 5 #[.val (.int p0)] [(.int (57 : Int32)), (.int (48 : Int32)), (.int p0)]))
  obtain ⟨_, _, ⟨T65, L65, k65, n65⟩, -, X65, ⟨Lc65, hQ65, l65, y65, z65⟩, st65⟩ := Jvm.LawKit.callS X0 hx (y := (⟨"com/example/hermod/hermod/PercentEncodingIsUnreservedPinLaw", "inRange", "(III)Z"⟩ : MethodName)) hown (mvT hZ (hw _ (List.mem_of_getElem? (i := 52) rfl))) (mvT hZ (hw _ (List.mem_of_getElem? (i := 53) rfl))) (mvT hZ (hw _ (List.mem_of_getElem? (i := 50) rfl))) (mvT hZ (hw _ (List.mem_of_getElem? (i := 54) rfl))) (by decide) (backOf (W := 0) (rm_inr l Z a0 hw [] p0 (48 : Int32) (57 : Int32) h0 n0  Z0 ) hZ (hw _ (List.mem_of_getElem? (i := 54) rfl)) (hw _ (List.mem_of_getElem? (i := 50) rfl)) (by decide) (by decide)) (g := (mkF m 5 #[.val (.int p0)] [(.int (57 : Int32)), (.int (48 : Int32)), (.int p0)])) rfl (by rw [hml]; rfl) (argsL := [(.int p0), (.int (48 : Int32)), (.int (57 : Int32))]) (rest := []) (lenOf pd_9 rfl) rfl (by show 2 * 0 + _ ≤ _; exact Nat.le_of_eq rfl) (hb hby dm3_5) (fun _ _ => ⟨rfl, e0, Nat.le_of_ble_eq_true rfl, Nat.le_of_ble_eq_true rfl⟩)
  dsimp only [Pt.U, Pt.locs, Pt.cells, Pt.slots] at X65 l65 y65 z65 st65 hQ65
  rw [l65, y65, z65] at X65
  obtain ⟨rfl, rfl, e65⟩ := hQ65
  have X65 : Stand p l e _ s m #[(.int p0)] below meth c T65 [] 0 0 := X65
  refine OGets.step st65 ?_
  show OGets p e below _ (T65.setTop (mkF m 8 #[.val (.int p0)] [(.int (f_inr p0 (48 : Int32) (57 : Int32)))]))
  by_cases hc8_66 : (f_inr p0 (48 : Int32) (57 : Int32)) = (0 : Int32)
  · refine OGets.step (fun _ => XS.ifYes X65.here hx rfl (pc0 := 8) (pc' := 13) rfl (hb hby dm3_8) rfl ((if0 _ _).trans (teq hc8_66).1) (by decide) (by decide)) ?_
    have hv67 := hv0.trans (if_pos hc8_66)
    show OGets p e below _ (T65.setTop (mkF m 13 #[.val (.int p0)] []))
    refine OGets.step (fun _ => XS.iloadN X65.here hx rfl (hb hby dm3_13) rfl) ?_
    show OGets p e below _ (T65.setTop (mkF m 14 #[.val (.int p0)] [(.int p0)]))
    refine OGets.step (fun _ => XS.bipush X65.here hx rfl (hb hby dm3_14)) ?_
    show OGets p e below _ (T65.setTop (mkF m 16 #[.val (.int p0)] [(.int (65 : Int32)), (.int p0)]))
    refine OGets.step (fun _ => XS.bipush X65.here hx rfl (hb hby dm3_16)) ?_
    show OGets p e below _ (T65.setTop (mkF m 18 #[.val (.int p0)] [(.int (90 : Int32)), (.int (65 : Int32)), (.int p0)]))
    obtain ⟨_, _, ⟨T68, L68, k68, n68⟩, -, X68, ⟨Lc68, hQ68, l68, y68, z68⟩, st68⟩ := Jvm.LawKit.callS X65 hx (y := (⟨"com/example/hermod/hermod/PercentEncodingIsUnreservedPinLaw", "inRange", "(III)Z"⟩ : MethodName)) hown (mvT hZ (hw _ (List.mem_of_getElem? (i := 52) rfl))) (mvT hZ (hw _ (List.mem_of_getElem? (i := 53) rfl))) (mvT hZ (hw _ (List.mem_of_getElem? (i := 50) rfl))) (mvT hZ (hw _ (List.mem_of_getElem? (i := 54) rfl))) (by decide) (backOf (W := 0) (rm_inr l Z a0 hw [] p0 (65 : Int32) (90 : Int32) h0 n0  Z0 ) hZ (hw _ (List.mem_of_getElem? (i := 54) rfl)) (hw _ (List.mem_of_getElem? (i := 50) rfl)) (by decide) (by decide)) (g := (mkF m 18 #[.val (.int p0)] [(.int (90 : Int32)), (.int (65 : Int32)), (.int p0)])) rfl (by rw [hml]; rfl) (argsL := [(.int p0), (.int (65 : Int32)), (.int (90 : Int32))]) (rest := []) (lenOf pd_9 rfl) rfl (by show 2 * 0 + _ ≤ _; exact Nat.le_of_eq rfl) (hb hby dm3_18) (fun _ _ => ⟨rfl, e65, Nat.le_of_ble_eq_true rfl, Nat.le_of_ble_eq_true rfl⟩)
    dsimp only [Pt.U, Pt.locs, Pt.cells, Pt.slots] at X68 l68 y68 z68 st68 hQ68
    rw [l68, y68, z68] at X68
    obtain ⟨rfl, rfl, e68⟩ := hQ68
    have X68 : Stand p l e _ s m #[(.int p0)] below meth c T68 [] 0 0 := X68
    refine OGets.step st68 ?_
    show OGets p e below _ (T68.setTop (mkF m 21 #[.val (.int p0)] [(.int (f_inr p0 (65 : Int32) (90 : Int32)))]))
    by_cases hc21_69 : (f_inr p0 (65 : Int32) (90 : Int32)) = (0 : Int32)
    · refine OGets.step (fun _ => XS.ifYes X68.here hx rfl (pc0 := 21) (pc' := 26) rfl (hb hby dm3_21) rfl ((if0 _ _).trans (teq hc21_69).1) (by decide) (by decide)) ?_
      have hv70 := hv67.trans (if_pos hc21_69)
      show OGets p e below _ (T68.setTop (mkF m 26 #[.val (.int p0)] []))
      refine OGets.step (fun _ => XS.iloadN X68.here hx rfl (hb hby dm3_26) rfl) ?_
      show OGets p e below _ (T68.setTop (mkF m 27 #[.val (.int p0)] [(.int p0)]))
      refine OGets.step (fun _ => XS.bipush X68.here hx rfl (hb hby dm3_27)) ?_
      show OGets p e below _ (T68.setTop (mkF m 29 #[.val (.int p0)] [(.int (97 : Int32)), (.int p0)]))
      refine OGets.step (fun _ => XS.bipush X68.here hx rfl (hb hby dm3_29)) ?_
      show OGets p e below _ (T68.setTop (mkF m 31 #[.val (.int p0)] [(.int (122 : Int32)), (.int (97 : Int32)), (.int p0)]))
      obtain ⟨_, _, ⟨T71, L71, k71, n71⟩, -, X71, ⟨Lc71, hQ71, l71, y71, z71⟩, st71⟩ := Jvm.LawKit.callS X68 hx (y := (⟨"com/example/hermod/hermod/PercentEncodingIsUnreservedPinLaw", "inRange", "(III)Z"⟩ : MethodName)) hown (mvT hZ (hw _ (List.mem_of_getElem? (i := 52) rfl))) (mvT hZ (hw _ (List.mem_of_getElem? (i := 53) rfl))) (mvT hZ (hw _ (List.mem_of_getElem? (i := 50) rfl))) (mvT hZ (hw _ (List.mem_of_getElem? (i := 54) rfl))) (by decide) (backOf (W := 0) (rm_inr l Z a0 hw [] p0 (97 : Int32) (122 : Int32) h0 n0  Z0 ) hZ (hw _ (List.mem_of_getElem? (i := 54) rfl)) (hw _ (List.mem_of_getElem? (i := 50) rfl)) (by decide) (by decide)) (g := (mkF m 31 #[.val (.int p0)] [(.int (122 : Int32)), (.int (97 : Int32)), (.int p0)])) rfl (by rw [hml]; rfl) (argsL := [(.int p0), (.int (97 : Int32)), (.int (122 : Int32))]) (rest := []) (lenOf pd_9 rfl) rfl (by show 2 * 0 + _ ≤ _; exact Nat.le_of_eq rfl) (hb hby dm3_31) (fun _ _ => ⟨rfl, e68, Nat.le_of_ble_eq_true rfl, Nat.le_of_ble_eq_true rfl⟩)
      dsimp only [Pt.U, Pt.locs, Pt.cells, Pt.slots] at X71 l71 y71 z71 st71 hQ71
      rw [l71, y71, z71] at X71
      obtain ⟨rfl, rfl, e71⟩ := hQ71
      have X71 : Stand p l e _ s m #[(.int p0)] below meth c T71 [] 0 0 := X71
      refine OGets.step st71 ?_
      show OGets p e below _ (T71.setTop (mkF m 34 #[.val (.int p0)] [(.int (f_inr p0 (97 : Int32) (122 : Int32)))]))
      by_cases hc34_72 : (f_inr p0 (97 : Int32) (122 : Int32)) = (0 : Int32)
      · refine OGets.step (fun _ => XS.ifYes X71.here hx rfl (pc0 := 34) (pc' := 39) rfl (hb hby dm3_34) rfl ((if0 _ _).trans (teq hc34_72).1) (by decide) (by decide)) ?_
        have hv73 := hv70.trans (if_pos hc34_72)
        show OGets p e below _ (T71.setTop (mkF m 39 #[.val (.int p0)] []))
        refine OGets.step (fun _ => XS.iloadN X71.here hx rfl (hb hby dm3_39) rfl) ?_
        show OGets p e below _ (T71.setTop (mkF m 40 #[.val (.int p0)] [(.int p0)]))
        refine OGets.step (fun _ => XS.bipush X71.here hx rfl (hb hby dm3_40)) ?_
        show OGets p e below _ (T71.setTop (mkF m 42 #[.val (.int p0)] [(.int (45 : Int32)), (.int p0)]))
        by_cases hc42_74 : p0 = (45 : Int32)
        · refine OGets.step (fun _ => XS.icmpYes X71.here hx rfl (pc0 := 42) (pc' := 63) rfl (hb hby dm3_42) rfl (teq hc42_74).1 (by decide) (by decide)) ?_
          have hv75 := hv73.trans (if_pos hc42_74)
          show OGets p e below _ (T71.setTop (mkF m 63 #[.val (.int p0)] []))
          exact J63 T71 X71 e71 hv75
        · refine OGets.step (fun _ => XS.icmpNo X71.here hx rfl (hb hby dm3_42) rfl (feq hc42_74).1) ?_
          have hv76 := hv73.trans (if_neg hc42_74)
          show OGets p e below _ (T71.setTop (mkF m 45 #[.val (.int p0)] []))
          refine OGets.step (fun _ => XS.iloadN X71.here hx rfl (hb hby dm3_45) rfl) ?_
          show OGets p e below _ (T71.setTop (mkF m 46 #[.val (.int p0)] [(.int p0)]))
          refine OGets.step (fun _ => XS.bipush X71.here hx rfl (hb hby dm3_46)) ?_
          show OGets p e below _ (T71.setTop (mkF m 48 #[.val (.int p0)] [(.int (46 : Int32)), (.int p0)]))
          by_cases hc48_77 : p0 = (46 : Int32)
          · refine OGets.step (fun _ => XS.icmpYes X71.here hx rfl (pc0 := 48) (pc' := 63) rfl (hb hby dm3_48) rfl (teq hc48_77).1 (by decide) (by decide)) ?_
            have hv78 := hv76.trans (if_pos hc48_77)
            show OGets p e below _ (T71.setTop (mkF m 63 #[.val (.int p0)] []))
            exact J63 T71 X71 e71 hv78
          · refine OGets.step (fun _ => XS.icmpNo X71.here hx rfl (hb hby dm3_48) rfl (feq hc48_77).1) ?_
            have hv79 := hv76.trans (if_neg hc48_77)
            show OGets p e below _ (T71.setTop (mkF m 51 #[.val (.int p0)] []))
            refine OGets.step (fun _ => XS.iloadN X71.here hx rfl (hb hby dm3_51) rfl) ?_
            show OGets p e below _ (T71.setTop (mkF m 52 #[.val (.int p0)] [(.int p0)]))
            refine OGets.step (fun _ => XS.bipush X71.here hx rfl (hb hby dm3_52)) ?_
            show OGets p e below _ (T71.setTop (mkF m 54 #[.val (.int p0)] [(.int (95 : Int32)), (.int p0)]))
            by_cases hc54_80 : p0 = (95 : Int32)
            · refine OGets.step (fun _ => XS.icmpYes X71.here hx rfl (pc0 := 54) (pc' := 63) rfl (hb hby dm3_54) rfl (teq hc54_80).1 (by decide) (by decide)) ?_
              have hv81 := hv79.trans (if_pos hc54_80)
              show OGets p e below _ (T71.setTop (mkF m 63 #[.val (.int p0)] []))
              exact J63 T71 X71 e71 hv81
            · refine OGets.step (fun _ => XS.icmpNo X71.here hx rfl (hb hby dm3_54) rfl (feq hc54_80).1) ?_
              have hv82 := hv79.trans (if_neg hc54_80)
              show OGets p e below _ (T71.setTop (mkF m 57 #[.val (.int p0)] []))
              refine OGets.step (fun _ => XS.iloadN X71.here hx rfl (hb hby dm3_57) rfl) ?_
              show OGets p e below _ (T71.setTop (mkF m 58 #[.val (.int p0)] [(.int p0)]))
              refine OGets.step (fun _ => XS.bipush X71.here hx rfl (hb hby dm3_58)) ?_
              show OGets p e below _ (T71.setTop (mkF m 60 #[.val (.int p0)] [(.int (126 : Int32)), (.int p0)]))
              by_cases hc60_83 : p0 = (126 : Int32)
              · refine OGets.step (fun _ => XS.icmpNo X71.here hx rfl (hb hby dm3_60) rfl (teq hc60_83).2) ?_
                have hv84 := hv82.trans (if_pos hc60_83)
                show OGets p e below _ (T71.setTop (mkF m 63 #[.val (.int p0)] []))
                exact J63 T71 X71 e71 hv84
              · refine OGets.step (fun _ => XS.icmpYes X71.here hx rfl (pc0 := 60) (pc' := 65) rfl (hb hby dm3_60) rfl (feq hc60_83).2 (by decide) (by decide)) ?_
                have hv85 := hv82.trans (if_neg hc60_83)
                show OGets p e below _ (T71.setTop (mkF m 65 #[.val (.int p0)] []))
                refine OGets.step (fun _ => XS.iconst X71.here hx rfl (hb hby dm3_65)) ?_
                show OGets p e below _ (T71.setTop (mkF m 66 #[.val (.int p0)] [(.int (0 : Int32))]))
                refine OGets.retN X71 hx hlk (t := .boolean) Bd.returns (by simp) (hb hby dm3_66) (Nat.le_of_ble_eq_true rfl) (Nat.le_of_ble_eq_true rfl) ?_
                exact ⟨congrArg (fun z => some (Value.int z)) hv85.symm, rfl, e71⟩
      · refine OGets.step (fun _ => XS.ifNo X71.here hx rfl (hb hby dm3_34) rfl ((if0 _ _).trans (feq hc34_72).1)) ?_
        have hv86 := hv70.trans (if_neg hc34_72)
        show OGets p e below _ (T71.setTop (mkF m 37 #[.val (.int p0)] []))
        refine OGets.step (fun _ => XS.iconst X71.here hx rfl (hb hby dm3_37)) ?_
        show OGets p e below _ (T71.setTop (mkF m 38 #[.val (.int p0)] [(.int (1 : Int32))]))
        refine OGets.retN X71 hx hlk (t := .boolean) Bd.returns (by simp) (hb hby dm3_38) (Nat.le_of_ble_eq_true rfl) (Nat.le_of_ble_eq_true rfl) ?_
        exact ⟨congrArg (fun z => some (Value.int z)) hv86.symm, rfl, e71⟩
    · refine OGets.step (fun _ => XS.ifNo X68.here hx rfl (hb hby dm3_21) rfl ((if0 _ _).trans (feq hc21_69).1)) ?_
      have hv87 := hv67.trans (if_neg hc21_69)
      show OGets p e below _ (T68.setTop (mkF m 24 #[.val (.int p0)] []))
      refine OGets.step (fun _ => XS.iconst X68.here hx rfl (hb hby dm3_24)) ?_
      show OGets p e below _ (T68.setTop (mkF m 25 #[.val (.int p0)] [(.int (1 : Int32))]))
      refine OGets.retN X68 hx hlk (t := .boolean) Bd.returns (by simp) (hb hby dm3_25) (Nat.le_of_ble_eq_true rfl) (Nat.le_of_ble_eq_true rfl) ?_
      exact ⟨congrArg (fun z => some (Value.int z)) hv87.symm, rfl, e68⟩
  · refine OGets.step (fun _ => XS.ifNo X65.here hx rfl (hb hby dm3_8) rfl ((if0 _ _).trans (feq hc8_66).1)) ?_
    have hv88 := hv0.trans (if_neg hc8_66)
    show OGets p e below _ (T65.setTop (mkF m 11 #[.val (.int p0)] []))
    refine OGets.step (fun _ => XS.iconst X65.here hx rfl (hb hby dm3_11)) ?_
    show OGets p e below _ (T65.setTop (mkF m 12 #[.val (.int p0)] [(.int (1 : Int32))]))
    refine OGets.retN X65 hx hlk (t := .boolean) Bd.returns (by simp) (hb hby dm3_12) (Nat.le_of_ble_eq_true rfl) (Nat.le_of_ble_eq_true rfl) ?_
    exact ⟨congrArg (fun z => some (Value.int z)) hv88.symm, rfl, e65⟩
def f_isu_45 (p0 : Int32) : Int32 := (1 : Int32)
def f_isu_36 (p0 : Int32) : Int32 := (if (f_lixa p0) < (0 : Int32) then (0 : Int32) else f_isu_45 p0)
def f_isu_24 (p0 : Int32) : Int32 := (if p0 < (48 : Int32) then f_isu_36 p0 else (if (57 : Int32) < p0 then f_isu_36 p0 else f_isu_45 p0))
def f_isu_12 (p0 : Int32) : Int32 := (if p0 < (65 : Int32) then f_isu_24 p0 else (if (90 : Int32) < p0 then f_isu_24 p0 else f_isu_45 p0))
def f_isu (p0 : Int32) : Int32 := (if p0 < (97 : Int32) then f_isu_12 p0 else (if (122 : Int32) < p0 then f_isu_12 p0 else f_isu_45 p0))
theorem d11m2_45 : decode prog_11_method_2_code 45 = .ok (.iconst 1, 1) := by decide +kernel
theorem d11m2_46 : decode prog_11_method_2_code 46 = .ok (.goto 4, 3) := by decide +kernel
theorem d11m2_50 : decode prog_11_method_2_code 50 = .ok (.ireturn, 1) := by decide +kernel
theorem d11m2_36 : decode prog_11_method_2_code 36 = .ok (.ldc 9, 2) := by decide +kernel
theorem d11m2_38 : decode prog_11_method_2_code 38 = .ok (.iload_n 0, 1) := by decide +kernel
theorem d11m2_39 : decode prog_11_method_2_code 39 = .ok (.invokevirtual 11, 3) := by decide +kernel
theorem pd_10 : parseMethodDescriptor "(I)I" = some ⟨[.int], some .int⟩ := by decide +kernel
theorem d11m2_42 : decode prog_11_method_2_code 42 = .ok (.ifCond .lt 7, 3) := by decide +kernel
theorem d11m2_49 : decode prog_11_method_2_code 49 = .ok (.iconst 0, 1) := by decide +kernel
theorem d11m2_24 : decode prog_11_method_2_code 24 = .ok (.iload_n 0, 1) := by decide +kernel
theorem d11m2_25 : decode prog_11_method_2_code 25 = .ok (.bipush 48, 2) := by decide +kernel
theorem d11m2_27 : decode prog_11_method_2_code 27 = .ok (.if_icmp .lt 9, 3) := by decide +kernel
theorem d11m2_30 : decode prog_11_method_2_code 30 = .ok (.iload_n 0, 1) := by decide +kernel
theorem d11m2_31 : decode prog_11_method_2_code 31 = .ok (.bipush 57, 2) := by decide +kernel
theorem d11m2_33 : decode prog_11_method_2_code 33 = .ok (.if_icmp .le 12, 3) := by decide +kernel
theorem d11m2_12 : decode prog_11_method_2_code 12 = .ok (.iload_n 0, 1) := by decide +kernel
theorem d11m2_13 : decode prog_11_method_2_code 13 = .ok (.bipush 65, 2) := by decide +kernel
theorem d11m2_15 : decode prog_11_method_2_code 15 = .ok (.if_icmp .lt 9, 3) := by decide +kernel
theorem d11m2_18 : decode prog_11_method_2_code 18 = .ok (.iload_n 0, 1) := by decide +kernel
theorem d11m2_19 : decode prog_11_method_2_code 19 = .ok (.bipush 90, 2) := by decide +kernel
theorem d11m2_21 : decode prog_11_method_2_code 21 = .ok (.if_icmp .le 24, 3) := by decide +kernel
theorem pn_11 : plainName "com/example/hermod/hermod/PercentEncoding" = true := by first | (simp [plainName, overriddenIn]; done) | decide +kernel
theorem d11m2_0 : decode prog_11_method_2_code 0 = .ok (.iload_n 0, 1) := by decide +kernel
theorem d11m2_1 : decode prog_11_method_2_code 1 = .ok (.bipush 97, 2) := by decide +kernel
theorem d11m2_3 : decode prog_11_method_2_code 3 = .ok (.if_icmp .lt 9, 3) := by decide +kernel
theorem d11m2_6 : decode prog_11_method_2_code 6 = .ok (.iload_n 0, 1) := by decide +kernel
theorem d11m2_7 : decode prog_11_method_2_code 7 = .ok (.bipush 122, 2) := by decide +kernel
theorem d11m2_9 : decode prog_11_method_2_code 9 = .ok (.if_icmp .le 36, 3) := by decide +kernel
theorem ef_isu (m : MethodId) (x0 : Int32) : entryFrame m #[(.int x0)] 1 = mkF m 0 #[.val (.int x0)] [] := by first | (simp [entryFrame, mkF, argsToLocals, Value.category]; done) | rfl
def Q_isu (Z : State) (p0 : Int32) (G : Int32) (EL : List (String × Nat)) (h0 : Heap) (n0 : Nat) (v : Option Value) (h : Heap) (L : List Loc) : Prop := v = some (.int (f_isu p0)) ∧ L = [] ∧ Ext h0 h
set_option maxRecDepth 65536 in
set_option maxHeartbeats 40000000 in
theorem rm_isu (l : Launch) (Z : State) (a0 : Array Value) (hw : ∀ d ∈ tables_1, d.before a0 Z = true) (ws : List Jvm.Cond) (p0 : Int32) (G : Int32) (EL : List (String × Nat)) (h0 : Heap) (n0 : Nat) (Z0 : n0 ≤ h0.size) (S0 : Sta Z h0 "java/lang/String" "COMPACT_STRINGS" "Z" (.int G)) (hG : ¬ G = (0 : Int32)) (hm9 : (("com/example/hermod/hermod/PercentEncoding", 9) : String × Nat) ∈ EL) (hEL : EW Z a0 EL) :
    MetFree l (⟨"com/example/hermod/hermod/PercentEncoding", "isUnreserved", "(I)Z"⟩ : MethodName) (head1 (Jvm.Cond.code (⟨"com/example/hermod/hermod/PercentEncoding", "isUnreserved", "(I)Z"⟩ : MethodName) prog_11_method_2_code 1 (some .boolean) :: ws) ({ frames := 4, cells := 2, slots := 20, locals := 59 } : Room)) (fun a_ U => a_ = #[(.int p0)] ∧ Z.Warmed39 U.vm ∧ U.heap = h0 ∧ CHv Z EL U.vm h0) (fun _ _ _ _ _ => True) (fun _ U o U' => ∃ v L, o = .returned v ∧ Q_isu Z p0 G EL h0 n0 v U'.heap L ∧ CHr Z EL U.vm U.heap U'.vm U'.heap ∧ ReturnedEndW U o U' L ({ frames := 4, cells := 2, slots := 20, locals := 59 } : Room).cells ({ frames := 4, cells := 2, slots := 20, locals := 59 } : Room).slots) := by
  refine MetFree.of_bodySF (plainFor_of_name pn_11) hisR ?_
  intro p e s m args below meth c s₁ Bd hml0 hP hK
  obtain ⟨rfl, hZ, hh, hCH⟩ := hP
  have hx := Bd.exec
  have hby := Bd.bytes
  have hlk : meth.locks = false := Bd.notSynchronized
  have hml : c.maxLocals = 1 := hml0
  have hown : s.vm.findClass "com/example/hermod/hermod/PercentEncoding" = some m.cls := findClass_of_methodNamed Bd.named
  have hnm := (name_of_methodNamed Bd.named Bd.method).1
  have X0 : Stand p l e ({ frames := 4, cells := 2, slots := 20, locals := 59 } : Room) s m #[(.int p0)] below meth c s₁ [] 0 0 := Stand.of_body Bd
  have e0 : s₁.heap = h0 := by rw [← hh, Bd.state]; rfl
  have N0 := Fr.nil n0
  have J45 : ∀ (T : State), Stand p l e ({ frames := 4, cells := 2, slots := 20, locals := 59 } : Room) s m #[(.int p0)] below meth c T [] 0 0 → T.heap = h0 → f_isu p0 = f_isu_45 p0 → OGets p e below (OLeavesW s Z EL (Q_isu Z p0 G EL h0 n0 ) ({ frames := 4, cells := 2, slots := 20, locals := 59 } : Room).cells ({ frames := 4, cells := 2, slots := 20, locals := 59 } : Room).slots) (T.setTop (mkF m 45 #[.val (.int p0)] [])) := by
    intro T X eT hv'
    have hv : f_isu p0 = (1 : Int32) := hv'
    show OGets p e below _ (T.setTop (mkF m 45 #[.val (.int p0)] []))
    refine OGets.step (fun _ => XS.iconst X.here hx rfl (hb hby d11m2_45)) ?_
    show OGets p e below _ (T.setTop (mkF m 46 #[.val (.int p0)] [(.int (1 : Int32))]))
    refine OGets.step (fun _ => XS.goto X.here hx rfl (pc0 := 46) (pc' := 50) rfl (hb hby d11m2_46) (by decide) (by decide)) ?_
    show OGets p e below _ (T.setTop (mkF m 50 #[.val (.int p0)] [(.int (1 : Int32))]))
    refine OGets.retNW (show Stand p l e _ (s.setVm s.vm) m #[(.int p0)] below meth c T _ _ _ from X) hx hlk (t := .boolean) Bd.returns (by simp) (hb hby d11m2_50) (State.WarmedH.since (State.WarmedH.refl s) 0) (Nat.zero_le _) (by rw [hh, eT]; exact CHv.at (show Stand p l e _ (s.setVm s.vm) m #[(.int p0)] below meth c T _ _ _ from X) hZ hEL hCH) (Nat.le_of_ble_eq_true rfl) (Nat.le_of_ble_eq_true rfl) ?_
    refine ⟨congrArg (fun z => some (Value.int z)) hv.symm, rfl, ?_⟩
    rw [eT]
    exact (own_ext0 h0)
  have J36 : ∀ (T : State), Stand p l e ({ frames := 4, cells := 2, slots := 20, locals := 59 } : Room) s m #[(.int p0)] below meth c T [] 0 0 → T.heap = h0 → f_isu p0 = f_isu_36 p0 → OGets p e below (OLeavesW s Z EL (Q_isu Z p0 G EL h0 n0 ) ({ frames := 4, cells := 2, slots := 20, locals := 59 } : Room).cells ({ frames := 4, cells := 2, slots := 20, locals := 59 } : Room).slots) (T.setTop (mkF m 36 #[.val (.int p0)] [])) := by
    intro T X eT hv'
    have hv : f_isu p0 = (if (f_lixa p0) < (0 : Int32) then (0 : Int32) else f_isu_45 p0) := hv'
    show OGets p e below _ (T.setTop (mkF m 36 #[.val (.int p0)] []))
    obtain ⟨a89, T89, h89, k89, b89, kc89, X89, e89, E89, S89, hk89, hZ89, hown89, Ex89, Fc89, Fv89, Av89, la89, lb89, R89', -, -, st89⟩ := ldcCH (EL := EL) (show Stand p l e _ (s.setVm s.vm) m #[(.int p0)] below meth c T _ _ _ from X) hx hZ hown (hw _ (List.mem_of_getElem? (i := 5) rfl)) (own_wS hw) eT (State.WarmedH.since (State.WarmedH.refl s) 0) (Nat.zero_le _) hEL hm9 hCH (vs := [(.int (45 : Int32)), (.int (46 : Int32)), (.int (95 : Int32)), (.int (126 : Int32))]) (z := (4 : Int32)) ⟨by decide +kernel, by decide +kernel⟩ (by decide) (by decide) (g := (mkF m 36 #[.val (.int p0)] [])) rfl (hb hby d11m2_36) (n := 16) (by decide +kernel) (by decide) (by decide) (by decide)
    have R89 : CHr Z EL s.vm h0 T89.vm h89 := R89'
    have Vs89 : OView Z 0 h89 (((a89, Sum.inl ("java/lang/String", ns_String, [(.ref b89), (.int (0 : Int32))])) : Addr × OObj) :: ((b89, Sum.inr (.byte, [(.int (45 : Int32)), (.int (46 : Int32)), (.int (95 : Int32)), (.int (126 : Int32))])) : Addr × OObj) :: []) := own_str (lay_ns_String hw) (hw _ (List.mem_of_getElem? (i := 7) rfl)) Ex89 Fv89 Fc89 Av89 (by decide)
    refine OGets.step st89 ?_
    show OGets p e below _ (T89.setTop (mkF m 38 #[.val (.int p0)] [(.ref a89)]))
    refine OGets.step (fun _ => XS.iloadN X89.here hx rfl (hb hby d11m2_38) rfl) ?_
    show OGets p e below _ (T89.setTop (mkF m 39 #[.val (.int p0)] [(.int p0), (.ref a89)]))
    have V90_1 := Vs89.bring 1 rfl
    have V90_1' : OView Z _ h89 (((b89, Sum.inr (.byte, [(.int (45 : Int32)), (.int (46 : Int32)), (.int (95 : Int32)), (.int (126 : Int32))])) : Addr × OObj) :: ((a89, Sum.inl ("java/lang/String", ns_String, [(.ref b89), (.int (0 : Int32))])) : Addr × OObj) :: []) := V90_1
    have V90_1 := V90_1'.bring 1 rfl
    have V90_1' : OView Z _ h89 (((a89, Sum.inl ("java/lang/String", ns_String, [(.ref b89), (.int (0 : Int32))])) : Addr × OObj) :: ((b89, Sum.inr (.byte, [(.int (45 : Int32)), (.int (46 : Int32)), (.int (95 : Int32)), (.int (126 : Int32))])) : Addr × OObj) :: []) := V90_1
    obtain ⟨cq90, kq90, q90a, q90b, q90c⟩ := isOf hZ89 e89 (V90_1'.exa 0 rfl)
    obtain ⟨_, _, ⟨T90, L90, k90, n90⟩, -, X90, ⟨Lc90, hQ90, l90, y90, z90⟩, st90⟩ := X89.virtualBack hx (y := (⟨"java/lang/String", "indexOf", "(I)I"⟩ : MethodName)) (z := (⟨"java/lang/String", "indexOf", "(I)I"⟩ : MethodName)) hown89 (mvT hZ89 (hw _ (List.mem_of_getElem? (i := 13) rfl))) (mvT hZ89 (hw _ (List.mem_of_getElem? (i := 14) rfl))) (notFace_of_selects (args := #[]) (mvT hZ89 (hw _ (List.mem_of_getElem? (i := 16) rfl)))) (mvT hZ89 (hw _ (List.mem_of_getElem? (i := 16) rfl))) (mvT hZ89 (hw _ (List.mem_of_getElem? (i := 15) rfl))) (by decide) (backOf (W := 0) (rm_ixa l Z a0 hw [] a89 b89 G p0 h89 0 ([]) (Nat.zero_le _) (S0.ext E89) hG V90_1') hZ89 (hw _ (List.mem_of_getElem? (i := 17) rfl)) (hw _ (List.mem_of_getElem? (i := 6) rfl)) (by decide) (by decide)) q90a q90c (g := (mkF m 39 #[.val (.int p0)] [(.int p0), (.ref a89)])) rfl (by rw [hml]; rfl) (Steps.refl _) (argsL := [(.int p0)]) (rest := []) (lenOf pd_10 rfl) rfl (by show 2 * 0 + _ ≤ _; exact Nat.le_of_eq rfl) (hb hby d11m2_39) (fun _ _ => ⟨rfl, e89, Nat.le_of_ble_eq_true rfl, Nat.le_of_ble_eq_true rfl⟩)
    dsimp only [Pt.U, Pt.locs, Pt.cells, Pt.slots] at X90 l90 y90 z90 st90 hQ90
    rw [l90, y90, z90] at X90
    obtain ⟨rfl, rfl, e90⟩ := hQ90
    have X90 : Stand p l e _ (s.setVm T89.vm) m #[(.int p0)] below meth c T90 [] 2 20 := X90
    refine OGets.after st90 ?_
    show OGets p e below _ (T90.setTop (mkF m 42 #[.val (.int p0)] [(.int (f_lixa p0))]))
    by_cases hc42_91 : (f_lixa p0) < (0 : Int32)
    · refine OGets.step (fun _ => XS.ifYes X90.here hx rfl (pc0 := 42) (pc' := 49) rfl (hb hby d11m2_42) rfl ((if0 _ _).trans (tlt hc42_91).1) (by decide) (by decide)) ?_
      have hv92 := hv.trans (if_pos hc42_91)
      show OGets p e below _ (T90.setTop (mkF m 49 #[.val (.int p0)] []))
      refine OGets.step (fun _ => XS.iconst X90.here hx rfl (hb hby d11m2_49)) ?_
      show OGets p e below _ (T90.setTop (mkF m 50 #[.val (.int p0)] [(.int (0 : Int32))]))
      refine OGets.retNW X90 hx hlk (t := .boolean) Bd.returns (by simp) (hb hby d11m2_50) S89 (by rw [e90]; exact hk89) (by rw [hh, e90]; exact R89.trans (CHv.at X90 hZ89 hEL R89.1)) (Nat.le_of_ble_eq_true rfl) (Nat.le_of_ble_eq_true rfl) ?_
      refine ⟨congrArg (fun z => some (Value.int z)) hv92.symm, rfl, ?_⟩
      rw [e90]
      exact (own_ext (own_ext0 h0) E89)
    · refine OGets.step (fun _ => XS.ifNo X90.here hx rfl (hb hby d11m2_42) rfl ((if0 _ _).trans (flt hc42_91).1)) ?_
      have hv93 := hv.trans (if_neg hc42_91)
      show OGets p e below _ (T90.setTop (mkF m 45 #[.val (.int p0)] []))
      refine OGets.step (fun _ => XS.iconst X90.here hx rfl (hb hby d11m2_45)) ?_
      show OGets p e below _ (T90.setTop (mkF m 46 #[.val (.int p0)] [(.int (1 : Int32))]))
      refine OGets.step (fun _ => XS.goto X90.here hx rfl (pc0 := 46) (pc' := 50) rfl (hb hby d11m2_46) (by decide) (by decide)) ?_
      show OGets p e below _ (T90.setTop (mkF m 50 #[.val (.int p0)] [(.int (1 : Int32))]))
      refine OGets.retNW X90 hx hlk (t := .boolean) Bd.returns (by simp) (hb hby d11m2_50) S89 (by rw [e90]; exact hk89) (by rw [hh, e90]; exact R89.trans (CHv.at X90 hZ89 hEL R89.1)) (Nat.le_of_ble_eq_true rfl) (Nat.le_of_ble_eq_true rfl) ?_
      refine ⟨congrArg (fun z => some (Value.int z)) hv93.symm, rfl, ?_⟩
      rw [e90]
      exact (own_ext (own_ext0 h0) E89)
  have J24 : ∀ (T : State), Stand p l e ({ frames := 4, cells := 2, slots := 20, locals := 59 } : Room) s m #[(.int p0)] below meth c T [] 0 0 → T.heap = h0 → f_isu p0 = f_isu_24 p0 → OGets p e below (OLeavesW s Z EL (Q_isu Z p0 G EL h0 n0 ) ({ frames := 4, cells := 2, slots := 20, locals := 59 } : Room).cells ({ frames := 4, cells := 2, slots := 20, locals := 59 } : Room).slots) (T.setTop (mkF m 24 #[.val (.int p0)] [])) := by
    intro T X eT hv'
    have hv : f_isu p0 = (if p0 < (48 : Int32) then f_isu_36 p0 else (if (57 : Int32) < p0 then f_isu_36 p0 else f_isu_45 p0)) := hv'
    show OGets p e below _ (T.setTop (mkF m 24 #[.val (.int p0)] []))
    refine OGets.step (fun _ => XS.iloadN X.here hx rfl (hb hby d11m2_24) rfl) ?_
    show OGets p e below _ (T.setTop (mkF m 25 #[.val (.int p0)] [(.int p0)]))
    refine OGets.step (fun _ => XS.bipush X.here hx rfl (hb hby d11m2_25)) ?_
    show OGets p e below _ (T.setTop (mkF m 27 #[.val (.int p0)] [(.int (48 : Int32)), (.int p0)]))
    by_cases hc27_94 : p0 < (48 : Int32)
    · refine OGets.step (fun _ => XS.icmpYes X.here hx rfl (pc0 := 27) (pc' := 36) rfl (hb hby d11m2_27) rfl (tlt hc27_94).1 (by decide) (by decide)) ?_
      have hv95 := hv.trans (if_pos hc27_94)
      show OGets p e below _ (T.setTop (mkF m 36 #[.val (.int p0)] []))
      exact J36 T X eT hv95
    · refine OGets.step (fun _ => XS.icmpNo X.here hx rfl (hb hby d11m2_27) rfl (flt hc27_94).1) ?_
      have hv96 := hv.trans (if_neg hc27_94)
      show OGets p e below _ (T.setTop (mkF m 30 #[.val (.int p0)] []))
      refine OGets.step (fun _ => XS.iloadN X.here hx rfl (hb hby d11m2_30) rfl) ?_
      show OGets p e below _ (T.setTop (mkF m 31 #[.val (.int p0)] [(.int p0)]))
      refine OGets.step (fun _ => XS.bipush X.here hx rfl (hb hby d11m2_31)) ?_
      show OGets p e below _ (T.setTop (mkF m 33 #[.val (.int p0)] [(.int (57 : Int32)), (.int p0)]))
      by_cases hc33_97 : (57 : Int32) < p0
      · refine OGets.step (fun _ => XS.icmpNo X.here hx rfl (hb hby d11m2_33) rfl (tlt hc33_97).2.2.2) ?_
        have hv98 := hv96.trans (if_pos hc33_97)
        show OGets p e below _ (T.setTop (mkF m 36 #[.val (.int p0)] []))
        exact J36 T X eT hv98
      · refine OGets.step (fun _ => XS.icmpYes X.here hx rfl (pc0 := 33) (pc' := 45) rfl (hb hby d11m2_33) rfl (flt hc33_97).2.2.2 (by decide) (by decide)) ?_
        have hv99 := hv96.trans (if_neg hc33_97)
        show OGets p e below _ (T.setTop (mkF m 45 #[.val (.int p0)] []))
        exact J45 T X eT hv99
  have J12 : ∀ (T : State), Stand p l e ({ frames := 4, cells := 2, slots := 20, locals := 59 } : Room) s m #[(.int p0)] below meth c T [] 0 0 → T.heap = h0 → f_isu p0 = f_isu_12 p0 → OGets p e below (OLeavesW s Z EL (Q_isu Z p0 G EL h0 n0 ) ({ frames := 4, cells := 2, slots := 20, locals := 59 } : Room).cells ({ frames := 4, cells := 2, slots := 20, locals := 59 } : Room).slots) (T.setTop (mkF m 12 #[.val (.int p0)] [])) := by
    intro T X eT hv'
    have hv : f_isu p0 = (if p0 < (65 : Int32) then f_isu_24 p0 else (if (90 : Int32) < p0 then f_isu_24 p0 else f_isu_45 p0)) := hv'
    show OGets p e below _ (T.setTop (mkF m 12 #[.val (.int p0)] []))
    refine OGets.step (fun _ => XS.iloadN X.here hx rfl (hb hby d11m2_12) rfl) ?_
    show OGets p e below _ (T.setTop (mkF m 13 #[.val (.int p0)] [(.int p0)]))
    refine OGets.step (fun _ => XS.bipush X.here hx rfl (hb hby d11m2_13)) ?_
    show OGets p e below _ (T.setTop (mkF m 15 #[.val (.int p0)] [(.int (65 : Int32)), (.int p0)]))
    by_cases hc15_100 : p0 < (65 : Int32)
    · refine OGets.step (fun _ => XS.icmpYes X.here hx rfl (pc0 := 15) (pc' := 24) rfl (hb hby d11m2_15) rfl (tlt hc15_100).1 (by decide) (by decide)) ?_
      have hv101 := hv.trans (if_pos hc15_100)
      show OGets p e below _ (T.setTop (mkF m 24 #[.val (.int p0)] []))
      exact J24 T X eT hv101
    · refine OGets.step (fun _ => XS.icmpNo X.here hx rfl (hb hby d11m2_15) rfl (flt hc15_100).1) ?_
      have hv102 := hv.trans (if_neg hc15_100)
      show OGets p e below _ (T.setTop (mkF m 18 #[.val (.int p0)] []))
      refine OGets.step (fun _ => XS.iloadN X.here hx rfl (hb hby d11m2_18) rfl) ?_
      show OGets p e below _ (T.setTop (mkF m 19 #[.val (.int p0)] [(.int p0)]))
      refine OGets.step (fun _ => XS.bipush X.here hx rfl (hb hby d11m2_19)) ?_
      show OGets p e below _ (T.setTop (mkF m 21 #[.val (.int p0)] [(.int (90 : Int32)), (.int p0)]))
      by_cases hc21_103 : (90 : Int32) < p0
      · refine OGets.step (fun _ => XS.icmpNo X.here hx rfl (hb hby d11m2_21) rfl (tlt hc21_103).2.2.2) ?_
        have hv104 := hv102.trans (if_pos hc21_103)
        show OGets p e below _ (T.setTop (mkF m 24 #[.val (.int p0)] []))
        exact J24 T X eT hv104
      · refine OGets.step (fun _ => XS.icmpYes X.here hx rfl (pc0 := 21) (pc' := 45) rfl (hb hby d11m2_21) rfl (flt hc21_103).2.2.2 (by decide) (by decide)) ?_
        have hv105 := hv102.trans (if_neg hc21_103)
        show OGets p e below _ (T.setTop (mkF m 45 #[.val (.int p0)] []))
        exact J45 T X eT hv105
  have hv0 : f_isu p0 = (if p0 < (97 : Int32) then f_isu_12 p0 else (if (122 : Int32) < p0 then f_isu_12 p0 else f_isu_45 p0)) := rfl
  show OGets p e below (OLeavesW s Z EL (Q_isu Z p0 G EL h0 n0 ) ({ frames := 4, cells := 2, slots := 20, locals := 59 } : Room).cells ({ frames := 4, cells := 2, slots := 20, locals := 59 } : Room).slots) _
  refine OGets.enter (ef_isu m p0) ?_
  show OGets p e below _ (s₁.setTop (mkF m 0 #[.val (.int p0)] []))
  refine OGets.step (fun _ => XS.iloadN X0.here hx rfl (hb hby d11m2_0) rfl) ?_
  show OGets p e below _ (s₁.setTop (mkF m 1 #[.val (.int p0)] [(.int p0)]))
  refine OGets.step (fun _ => XS.bipush X0.here hx rfl (hb hby d11m2_1)) ?_
  show OGets p e below _ (s₁.setTop (mkF m 3 #[.val (.int p0)] [(.int (97 : Int32)), (.int p0)]))
  by_cases hc3_106 : p0 < (97 : Int32)
  · refine OGets.step (fun _ => XS.icmpYes X0.here hx rfl (pc0 := 3) (pc' := 12) rfl (hb hby d11m2_3) rfl (tlt hc3_106).1 (by decide) (by decide)) ?_
    have hv107 := hv0.trans (if_pos hc3_106)
    show OGets p e below _ (s₁.setTop (mkF m 12 #[.val (.int p0)] []))
    exact J12 s₁ X0 e0 hv107
  · refine OGets.step (fun _ => XS.icmpNo X0.here hx rfl (hb hby d11m2_3) rfl (flt hc3_106).1) ?_
    have hv108 := hv0.trans (if_neg hc3_106)
    show OGets p e below _ (s₁.setTop (mkF m 6 #[.val (.int p0)] []))
    refine OGets.step (fun _ => XS.iloadN X0.here hx rfl (hb hby d11m2_6) rfl) ?_
    show OGets p e below _ (s₁.setTop (mkF m 7 #[.val (.int p0)] [(.int p0)]))
    refine OGets.step (fun _ => XS.bipush X0.here hx rfl (hb hby d11m2_7)) ?_
    show OGets p e below _ (s₁.setTop (mkF m 9 #[.val (.int p0)] [(.int (122 : Int32)), (.int p0)]))
    by_cases hc9_109 : (122 : Int32) < p0
    · refine OGets.step (fun _ => XS.icmpNo X0.here hx rfl (hb hby d11m2_9) rfl (tlt hc9_109).2.2.2) ?_
      have hv110 := hv108.trans (if_pos hc9_109)
      show OGets p e below _ (s₁.setTop (mkF m 12 #[.val (.int p0)] []))
      exact J12 s₁ X0 e0 hv110
    · refine OGets.step (fun _ => XS.icmpYes X0.here hx rfl (pc0 := 9) (pc' := 45) rfl (hb hby d11m2_9) rfl (flt hc9_109).2.2.2 (by decide) (by decide)) ?_
      have hv111 := hv108.trans (if_neg hc9_109)
      show OGets p e below _ (s₁.setTop (mkF m 45 #[.val (.int p0)] []))
      exact J45 s₁ X0 e0 hv111
theorem own_b (x : Int32) (h : 0 ≤ x.toInt ∧ x.toInt ≤ 255) (k : Int32) (hk : 0 ≤ k.toInt ∧ k.toInt ≤ 127) : k = x.toInt8.toInt32 ↔ x.toInt = k.toInt := by
  have h1 := c_i2b x
  rw [← Int32.toInt_inj]
  omega
theorem own_in {x lo hi : Int32} : f_inr x lo hi = 0 ↔ ¬ (lo.toInt ≤ x.toInt ∧ x.toInt ≤ hi.toInt) := by
  simp only [f_inr, f_inr_14, Int32.lt_iff_toInt_lt]
  by_cases h1 : x.toInt < lo.toInt
  · simp only [if_pos h1, true_iff]; omega
  · simp only [if_neg h1]
    by_cases h2 : hi.toInt < x.toInt
    · simp only [if_pos h2, true_iff]; omega
    · simp only [if_neg h2]
      constructor
      · intro h; cases h
      · intro h; omega
theorem own_can (x : Int32) : f_can x = 0 ↔ ¬ (0 ≤ x.toInt ∧ x.toInt ≤ 255) := by
  simp only [f_can, f_can_15, Int32.lt_iff_toInt_lt, Int32.reduceToInt]
  by_cases h1 : x.toInt < 0
  · simp only [if_pos h1, true_iff]; omega
  · simp only [if_neg h1]
    by_cases h2 : 255 < x.toInt
    · simp only [if_pos h2, true_iff]; omega
    · simp only [if_neg h2]
      constructor
      · intro h; cases h
      · intro h; omega
theorem own_lix (x : Int32) : f_lixa x < 0 ↔ ¬ (x.toInt = 45 ∨ x.toInt = 46 ∨ x.toInt = 95 ∨ x.toInt = 126) := by
  by_cases hc : f_can x = 0
  · have e : f_lixa x = -1 := if_pos hc
    rw [own_can] at hc
    rw [e]
    constructor
    · intro _; omega
    · intro _; decide
  · have e : f_lixa x = f_chra x := if_neg hc
    rw [own_can, Classical.not_not] at hc
    rw [e]
    have b1 := own_b x hc 45 (by decide)
    have b2 := own_b x hc 46 (by decide)
    have b3 := own_b x hc 95 (by decide)
    have b4 := own_b x hc 126 (by decide)
    simp only [Int32.reduceToInt] at b1 b2 b3 b4
    simp only [f_chra, b1, b2, b3, b4]
    repeat' split
    all_goals first | (constructor <;> intro h <;> first | (exfalso; revert h; decide +kernel) | omega) | (constructor <;> intro h <;> first | decide +kernel | omega)
set_option maxHeartbeats 4000000 in
theorem own_alike (x : Int32) : f_isu x = f_expd x := by
  have hL := own_lix x
  simp only [f_isu, f_isu_12, f_isu_24, f_isu_36, f_isu_45, f_expd, f_expd_63, own_in, hL]
  clear hL
  simp only [Int32.lt_iff_toInt_lt, ← Int32.toInt_inj, Int32.reduceToInt]
  generalize x.toInt = z
  repeat' split
  all_goals first | (with_reducible rfl) | (exfalso; omega)
theorem ef_law (m : MethodId) (x0 : Int32) (x1 : Int32) : entryFrame m #[(.int x0), (.int x1)] maxLocals = mkF m 0 #[.val (.int x0), .val (.int x1), .unset, .unset] [] := by first | (simp [entryFrame, mkF, argsToLocals, Value.category, maxLocals]; done) | rfl
def Q_law (Z : State) (p0 : Int32) (p1 : Int32) (G : Int32) (EL : List (String × Nat)) (h0 : Heap) (n0 : Nat) (v : Option Value) (h : Heap) (L : List Loc) : Prop := v = some (.int 1) ∧ Fr n0 L
set_option maxRecDepth 65536 in
set_option maxHeartbeats 40000000 in
theorem rm_law (l : Launch) (Z : State) (a0 : Array Value) (hw : ∀ d ∈ tables_1, d.before a0 Z = true) (ws : List Jvm.Cond) (p0 : Int32) (p1 : Int32) (G : Int32) (EL : List (String × Nat)) (h0 : Heap) (n0 : Nat) (Z0 : n0 ≤ h0.size) (S0 : Sta Z h0 "java/lang/String" "COMPACT_STRINGS" "Z" (.int G)) (hG : ¬ G = (0 : Int32)) (hm9 : (("com/example/hermod/hermod/PercentEncoding", 9) : String × Nat) ∈ EL) (hEL : EW Z a0 EL) :
    MetFree l x (head1 (Jvm.Cond.code x code maxLocals ret :: ws) room_1) (fun a_ U => a_ = #[(.int p0), (.int p1)] ∧ Z.Warmed39 U.vm ∧ U.heap = h0 ∧ CHv Z EL U.vm h0) (fun _ _ _ _ _ => True) (fun _ U o U' => ∃ v L, o = .returned v ∧ Q_law Z p0 p1 G EL h0 n0 v U'.heap L ∧ CHr Z EL U.vm U.heap U'.vm U'.heap ∧ ReturnedEndW U o U' L 8 1088) := by
  refine MetFree.of_bodySF (plainFor_of_name pn_8) hisR ?_
  intro p e s m args below meth c s₁ Bd hml0 hP hK
  obtain ⟨rfl, hZ, hh, hCH⟩ := hP
  have hx := Bd.exec
  have hby := Bd.bytes
  have hlk : meth.locks = false := Bd.notSynchronized
  have hml : c.maxLocals = 4 := hml0
  have hown : s.vm.findClass "com/example/hermod/hermod/PercentEncodingIsUnreservedPinLaw" = some m.cls := findClass_of_methodNamed Bd.named
  have hnm := (name_of_methodNamed Bd.named Bd.method).1
  have X0 : Stand p l e room_1 s m #[(.int p0), (.int p1)] below meth c s₁ [] 0 0 := Stand.of_body Bd
  have e0 : s₁.heap = h0 := by rw [← hh, Bd.state]; rfl
  have N0 := Fr.nil n0
  show OGets p e below (OLeavesW s Z EL (Q_law Z p0 p1 G EL h0 n0 ) 8 1088) _
  refine OGets.enter (ef_law m p0 p1) ?_
  show OGets p e below _ (s₁.setTop (mkF m 0 #[.val (.int p0), .val (.int p1), .unset, .unset] []))
  refine OGets.step (fun _ => XS.iloadN X0.here hx rfl (hb hby at_0) rfl) ?_
  show OGets p e below _ (s₁.setTop (mkF m 1 #[.val (.int p0), .val (.int p1), .unset, .unset] [(.int p1)]))
  refine OGets.step (fun _ => XS.iconst X0.here hx rfl (hb hby at_1)) ?_
  show OGets p e below _ (s₁.setTop (mkF m 2 #[.val (.int p0), .val (.int p1), .unset, .unset] [(.int (3 : Int32)), (.int p1)]))
  refine OGets.step (fun _ => XS.iand X0.here hx rfl (hb hby at_2) rfl) ?_
  show OGets p e below _ (s₁.setTop (mkF m 3 #[.val (.int p0), .val (.int p1), .unset, .unset] [(.int (p1 &&& (3 : Int32)))]))
  refine OGets.step (fun _ => XS.istoreN X0.here hx rfl (hb hby at_3) rfl (l' := #[.val (.int p0), .val (.int p1), .val (.int (p1 &&& (3 : Int32))), .unset]) rfl) ?_
  show OGets p e below _ (s₁.setTop (mkF m 4 #[.val (.int p0), .val (.int p1), .val (.int (p1 &&& (3 : Int32))), .unset] []))
  refine OGets.step (fun _ => XS.iloadN X0.here hx rfl (hb hby at_4) rfl) ?_
  show OGets p e below _ (s₁.setTop (mkF m 5 #[.val (.int p0), .val (.int p1), .val (.int (p1 &&& (3 : Int32))), .unset] [(.int (p1 &&& (3 : Int32)))]))
  by_cases hc5_112 : (p1 &&& (3 : Int32)) = (0 : Int32)
  · refine OGets.step (fun _ => XS.ifNo X0.here hx rfl (hb hby at_5) rfl ((if0 _ _).trans (teq hc5_112).2)) ?_
    show OGets p e below _ (s₁.setTop (mkF m 8 #[.val (.int p0), .val (.int p1), .val (.int (p1 &&& (3 : Int32))), .unset] []))
    refine OGets.step (fun _ => XS.iloadN X0.here hx rfl (hb hby at_8) rfl) ?_
    show OGets p e below _ (s₁.setTop (mkF m 9 #[.val (.int p0), .val (.int p1), .val (.int (p1 &&& (3 : Int32))), .unset] [(.int p0)]))
    refine OGets.step (fun _ => XS.istoreN X0.here hx rfl (hb hby at_9) rfl (l' := #[.val (.int p0), .val (.int p1), .val (.int (p1 &&& (3 : Int32))), .val (.int p0)]) rfl) ?_
    show OGets p e below _ (s₁.setTop (mkF m 10 #[.val (.int p0), .val (.int p1), .val (.int (p1 &&& (3 : Int32))), .val (.int p0)] []))
    refine OGets.step (fun _ => XS.goto X0.here hx rfl (pc0 := 10) (pc' := 49) rfl (hb hby at_10) (by decide) (by decide)) ?_
    show OGets p e below _ (s₁.setTop (mkF m 49 #[.val (.int p0), .val (.int p1), .val (.int (p1 &&& (3 : Int32))), .val (.int p0)] []))
    refine OGets.step (fun _ => XS.iloadN X0.here hx rfl (hb hby at_49) rfl) ?_
    show OGets p e below _ (s₁.setTop (mkF m 50 #[.val (.int p0), .val (.int p1), .val (.int (p1 &&& (3 : Int32))), .val (.int p0)] [(.int p0)]))
    have Xw113 : Stand p l e _ (s.setVm s.vm) m #[(.int p0), (.int p1)] below meth c s₁ _ _ _ := X0
    obtain ⟨_, _, ⟨T113, L113, k113, n113⟩, -, X113', S113', hgr113, ⟨Lc113, hQ113, l113, y113, z113, hC113⟩, st113⟩ := callSS Xw113 hx (y := (⟨"com/example/hermod/hermod/PercentEncoding", "isUnreserved", "(I)Z"⟩ : MethodName)) hown (mvT hZ (hw _ (List.mem_of_getElem? (i := 1) rfl))) (mvT hZ (hw _ (List.mem_of_getElem? (i := 2) rfl))) (mvT hZ (hw _ (List.mem_of_getElem? (i := 3) rfl))) (mvT hZ (hw _ (List.mem_of_getElem? (i := 4) rfl))) (by decide) (backOfSH (EL := EL) (W := 0) (rm_isu l Z a0 hw [] p0 G EL h0 n0  Z0 S0 hG hm9 hEL) hZ (hw _ (List.mem_of_getElem? (i := 4) rfl)) (hw _ (List.mem_of_getElem? (i := 3) rfl)) (by decide) (by decide) hEL hCH) (g := (mkF m 50 #[.val (.int p0), .val (.int p1), .val (.int (p1 &&& (3 : Int32))), .val (.int p0)] [(.int p0)])) rfl (by rw [hml]; rfl) (argsL := [(.int p0)]) (rest := []) (lenOf pd_3 rfl) rfl (by show 2 * 0 + _ ≤ _; exact Nat.le_of_eq rfl) (hb hby at_50) (fun _ _ => ⟨rfl, e0, Nat.le_of_ble_eq_true rfl, Nat.le_of_ble_eq_true rfl⟩)
    dsimp only [Pt.U, Pt.locs, Pt.cells, Pt.slots] at X113' S113' hgr113 l113 y113 z113 st113 hQ113 hC113
    rw [l113, y113, z113] at X113'
    have X113 : Stand p l e _ (s.setVm T113.vm) m #[(.int p0), (.int p1)] below meth c T113 _ _ _ := X113'
    have S113 : s.Since T113.vm T113.heap.size := S113'
    have hZ113 : Z.Warmed39 (s.setVm T113.vm).vm := State.Warmed39.trans (t := (s.setVm s.vm)) hZ S113'.1
    have hown113 : (s.setVm T113.vm).vm.findClass "com/example/hermod/hermod/PercentEncodingIsUnreservedPinLaw" = some m.cls := by rw [show (s.setVm T113.vm).vm = T113.vm from rfl, S113'.1.alike.findClass]; exact hown
    obtain ⟨rfl, rfl, E113⟩ := hQ113
    have R113 : CHr Z EL s.vm h0 T113.vm T113.heap := hC113
    refine OGets.after st113 ?_
    show OGets p e below _ (T113.setTop (mkF m 53 #[.val (.int p0), .val (.int p1), .val (.int (p1 &&& (3 : Int32))), .val (.int p0)] [(.int (f_isu p0))]))
    refine OGets.step (fun _ => XS.iloadN X113.here hx rfl (hb hby at_53) rfl) ?_
    show OGets p e below _ (T113.setTop (mkF m 54 #[.val (.int p0), .val (.int p1), .val (.int (p1 &&& (3 : Int32))), .val (.int p0)] [(.int p0), (.int (f_isu p0))]))
    obtain ⟨_, _, ⟨T114, L114, k114, n114⟩, -, X114, ⟨Lc114, hQ114, l114, y114, z114⟩, st114⟩ := Jvm.LawKit.callS X113 hx (y := (⟨"com/example/hermod/hermod/PercentEncodingIsUnreservedPinLaw", "expected", "(I)Z"⟩ : MethodName)) hown113 (mvT hZ113 (hw _ (List.mem_of_getElem? (i := 48) rfl))) (mvT hZ113 (hw _ (List.mem_of_getElem? (i := 49) rfl))) (mvT hZ113 (hw _ (List.mem_of_getElem? (i := 50) rfl))) (mvT hZ113 (hw _ (List.mem_of_getElem? (i := 51) rfl))) (by decide) (backOf (W := 1) (rm_expd l Z a0 hw [] p0 T113.heap n0  (Nat.le_trans Z0 E113.1) ) hZ113 (hw _ (List.mem_of_getElem? (i := 51) rfl)) (hw _ (List.mem_of_getElem? (i := 50) rfl)) (by decide) (by decide)) (g := (mkF m 54 #[.val (.int p0), .val (.int p1), .val (.int (p1 &&& (3 : Int32))), .val (.int p0)] [(.int p0), (.int (f_isu p0))])) rfl (by rw [hml]; rfl) (argsL := [(.int p0)]) (rest := [(.int (f_isu p0))]) (lenOf pd_3 rfl) rfl (by show 2 * 0 + _ ≤ _; exact Nat.le_of_eq rfl) (hb hby at_54) (fun _ _ => ⟨rfl, rfl, Nat.le_of_ble_eq_true rfl, Nat.le_of_ble_eq_true rfl⟩)
    dsimp only [Pt.U, Pt.locs, Pt.cells, Pt.slots] at X114 l114 y114 z114 st114 hQ114
    rw [l114, y114, z114] at X114
    obtain ⟨rfl, rfl, e114⟩ := hQ114
    have X114 : Stand p l e _ (s.setVm T113.vm) m #[(.int p0), (.int p1)] below meth c T114 [] 2 20 := X114
    refine OGets.step st114 ?_
    show OGets p e below _ (T114.setTop (mkF m 57 #[.val (.int p0), .val (.int p1), .val (.int (p1 &&& (3 : Int32))), .val (.int p0)] [(.int (f_expd p0)), (.int (f_isu p0))]))
    refine OGets.step (fun _ => XS.icmpNo X114.here hx rfl (hb hby at_57) rfl (teq (own_alike _ : (f_isu p0) = (f_expd p0))).2) ?_
    show OGets p e below _ (T114.setTop (mkF m 60 #[.val (.int p0), .val (.int p1), .val (.int (p1 &&& (3 : Int32))), .val (.int p0)] []))
    refine OGets.step (fun _ => XS.iconst X114.here hx rfl (hb hby at_60)) ?_
    show OGets p e below _ (T114.setTop (mkF m 61 #[.val (.int p0), .val (.int p1), .val (.int (p1 &&& (3 : Int32))), .val (.int p0)] [(.int (1 : Int32))]))
    refine OGets.step (fun _ => XS.goto X114.here hx rfl (pc0 := 61) (pc' := 65) rfl (hb hby at_61) (by decide) (by decide)) ?_
    show OGets p e below _ (T114.setTop (mkF m 65 #[.val (.int p0), .val (.int p1), .val (.int (p1 &&& (3 : Int32))), .val (.int p0)] [(.int (1 : Int32))]))
    refine OGets.retNW X114 hx hlk (t := .boolean) Bd.returns (by simp) (hb hby at_65) S113 (by rw [e114]; exact (Nat.le_refl _)) (by rw [hh, e114]; exact R113.trans (CHv.at X114 hZ113 hEL R113.1)) (Nat.le_of_ble_eq_true rfl) (Nat.le_of_ble_eq_true rfl) ?_
    exact ⟨rfl, Fr.nil _⟩
  · refine OGets.step (fun _ => XS.ifYes X0.here hx rfl (pc0 := 5) (pc' := 13) rfl (hb hby at_5) rfl ((if0 _ _).trans (feq hc5_112).2) (by decide) (by decide)) ?_
    show OGets p e below _ (s₁.setTop (mkF m 13 #[.val (.int p0), .val (.int p1), .val (.int (p1 &&& (3 : Int32))), .unset] []))
    refine OGets.step (fun _ => XS.iloadN X0.here hx rfl (hb hby at_13) rfl) ?_
    show OGets p e below _ (s₁.setTop (mkF m 14 #[.val (.int p0), .val (.int p1), .val (.int (p1 &&& (3 : Int32))), .unset] [(.int (p1 &&& (3 : Int32)))]))
    refine OGets.step (fun _ => XS.iconst X0.here hx rfl (hb hby at_14)) ?_
    show OGets p e below _ (s₁.setTop (mkF m 15 #[.val (.int p0), .val (.int p1), .val (.int (p1 &&& (3 : Int32))), .unset] [(.int (1 : Int32)), (.int (p1 &&& (3 : Int32)))]))
    by_cases hc15_116 : (p1 &&& (3 : Int32)) = (1 : Int32)
    · refine OGets.step (fun _ => XS.icmpNo X0.here hx rfl (hb hby at_15) rfl (teq hc15_116).2) ?_
      show OGets p e below _ (s₁.setTop (mkF m 18 #[.val (.int p0), .val (.int p1), .val (.int (p1 &&& (3 : Int32))), .unset] []))
      refine OGets.step (fun _ => XS.iloadN X0.here hx rfl (hb hby at_18) rfl) ?_
      show OGets p e below _ (s₁.setTop (mkF m 19 #[.val (.int p0), .val (.int p1), .val (.int (p1 &&& (3 : Int32))), .unset] [(.int p0)]))
      refine OGets.step (fun _ => XS.sipush X0.here hx rfl (hb hby at_19)) ?_
      show OGets p e below _ (s₁.setTop (mkF m 22 #[.val (.int p0), .val (.int p1), .val (.int (p1 &&& (3 : Int32))), .unset] [(.int (255 : Int32)), (.int p0)]))
      refine OGets.step (fun _ => XS.iand X0.here hx rfl (hb hby at_22) rfl) ?_
      show OGets p e below _ (s₁.setTop (mkF m 23 #[.val (.int p0), .val (.int p1), .val (.int (p1 &&& (3 : Int32))), .unset] [(.int (p0 &&& (255 : Int32)))]))
      refine OGets.step (fun _ => XS.istoreN X0.here hx rfl (hb hby at_23) rfl (l' := #[.val (.int p0), .val (.int p1), .val (.int (p1 &&& (3 : Int32))), .val (.int (p0 &&& (255 : Int32)))]) rfl) ?_
      show OGets p e below _ (s₁.setTop (mkF m 24 #[.val (.int p0), .val (.int p1), .val (.int (p1 &&& (3 : Int32))), .val (.int (p0 &&& (255 : Int32)))] []))
      refine OGets.step (fun _ => XS.goto X0.here hx rfl (pc0 := 24) (pc' := 49) rfl (hb hby at_24) (by decide) (by decide)) ?_
      show OGets p e below _ (s₁.setTop (mkF m 49 #[.val (.int p0), .val (.int p1), .val (.int (p1 &&& (3 : Int32))), .val (.int (p0 &&& (255 : Int32)))] []))
      refine OGets.step (fun _ => XS.iloadN X0.here hx rfl (hb hby at_49) rfl) ?_
      show OGets p e below _ (s₁.setTop (mkF m 50 #[.val (.int p0), .val (.int p1), .val (.int (p1 &&& (3 : Int32))), .val (.int (p0 &&& (255 : Int32)))] [(.int (p0 &&& (255 : Int32)))]))
      have Xw117 : Stand p l e _ (s.setVm s.vm) m #[(.int p0), (.int p1)] below meth c s₁ _ _ _ := X0
      obtain ⟨_, _, ⟨T117, L117, k117, n117⟩, -, X117', S117', hgr117, ⟨Lc117, hQ117, l117, y117, z117, hC117⟩, st117⟩ := callSS Xw117 hx (y := (⟨"com/example/hermod/hermod/PercentEncoding", "isUnreserved", "(I)Z"⟩ : MethodName)) hown (mvT hZ (hw _ (List.mem_of_getElem? (i := 1) rfl))) (mvT hZ (hw _ (List.mem_of_getElem? (i := 2) rfl))) (mvT hZ (hw _ (List.mem_of_getElem? (i := 3) rfl))) (mvT hZ (hw _ (List.mem_of_getElem? (i := 4) rfl))) (by decide) (backOfSH (EL := EL) (W := 0) (rm_isu l Z a0 hw [] (p0 &&& (255 : Int32)) G EL h0 n0  Z0 S0 hG hm9 hEL) hZ (hw _ (List.mem_of_getElem? (i := 4) rfl)) (hw _ (List.mem_of_getElem? (i := 3) rfl)) (by decide) (by decide) hEL hCH) (g := (mkF m 50 #[.val (.int p0), .val (.int p1), .val (.int (p1 &&& (3 : Int32))), .val (.int (p0 &&& (255 : Int32)))] [(.int (p0 &&& (255 : Int32)))])) rfl (by rw [hml]; rfl) (argsL := [(.int (p0 &&& (255 : Int32)))]) (rest := []) (lenOf pd_3 rfl) rfl (by show 2 * 0 + _ ≤ _; exact Nat.le_of_eq rfl) (hb hby at_50) (fun _ _ => ⟨rfl, e0, Nat.le_of_ble_eq_true rfl, Nat.le_of_ble_eq_true rfl⟩)
      dsimp only [Pt.U, Pt.locs, Pt.cells, Pt.slots] at X117' S117' hgr117 l117 y117 z117 st117 hQ117 hC117
      rw [l117, y117, z117] at X117'
      have X117 : Stand p l e _ (s.setVm T117.vm) m #[(.int p0), (.int p1)] below meth c T117 _ _ _ := X117'
      have S117 : s.Since T117.vm T117.heap.size := S117'
      have hZ117 : Z.Warmed39 (s.setVm T117.vm).vm := State.Warmed39.trans (t := (s.setVm s.vm)) hZ S117'.1
      have hown117 : (s.setVm T117.vm).vm.findClass "com/example/hermod/hermod/PercentEncodingIsUnreservedPinLaw" = some m.cls := by rw [show (s.setVm T117.vm).vm = T117.vm from rfl, S117'.1.alike.findClass]; exact hown
      obtain ⟨rfl, rfl, E117⟩ := hQ117
      have R117 : CHr Z EL s.vm h0 T117.vm T117.heap := hC117
      refine OGets.after st117 ?_
      show OGets p e below _ (T117.setTop (mkF m 53 #[.val (.int p0), .val (.int p1), .val (.int (p1 &&& (3 : Int32))), .val (.int (p0 &&& (255 : Int32)))] [(.int (f_isu (p0 &&& (255 : Int32))))]))
      refine OGets.step (fun _ => XS.iloadN X117.here hx rfl (hb hby at_53) rfl) ?_
      show OGets p e below _ (T117.setTop (mkF m 54 #[.val (.int p0), .val (.int p1), .val (.int (p1 &&& (3 : Int32))), .val (.int (p0 &&& (255 : Int32)))] [(.int (p0 &&& (255 : Int32))), (.int (f_isu (p0 &&& (255 : Int32))))]))
      obtain ⟨_, _, ⟨T118, L118, k118, n118⟩, -, X118, ⟨Lc118, hQ118, l118, y118, z118⟩, st118⟩ := Jvm.LawKit.callS X117 hx (y := (⟨"com/example/hermod/hermod/PercentEncodingIsUnreservedPinLaw", "expected", "(I)Z"⟩ : MethodName)) hown117 (mvT hZ117 (hw _ (List.mem_of_getElem? (i := 48) rfl))) (mvT hZ117 (hw _ (List.mem_of_getElem? (i := 49) rfl))) (mvT hZ117 (hw _ (List.mem_of_getElem? (i := 50) rfl))) (mvT hZ117 (hw _ (List.mem_of_getElem? (i := 51) rfl))) (by decide) (backOf (W := 1) (rm_expd l Z a0 hw [] (p0 &&& (255 : Int32)) T117.heap n0  (Nat.le_trans Z0 E117.1) ) hZ117 (hw _ (List.mem_of_getElem? (i := 51) rfl)) (hw _ (List.mem_of_getElem? (i := 50) rfl)) (by decide) (by decide)) (g := (mkF m 54 #[.val (.int p0), .val (.int p1), .val (.int (p1 &&& (3 : Int32))), .val (.int (p0 &&& (255 : Int32)))] [(.int (p0 &&& (255 : Int32))), (.int (f_isu (p0 &&& (255 : Int32))))])) rfl (by rw [hml]; rfl) (argsL := [(.int (p0 &&& (255 : Int32)))]) (rest := [(.int (f_isu (p0 &&& (255 : Int32))))]) (lenOf pd_3 rfl) rfl (by show 2 * 0 + _ ≤ _; exact Nat.le_of_eq rfl) (hb hby at_54) (fun _ _ => ⟨rfl, rfl, Nat.le_of_ble_eq_true rfl, Nat.le_of_ble_eq_true rfl⟩)
      dsimp only [Pt.U, Pt.locs, Pt.cells, Pt.slots] at X118 l118 y118 z118 st118 hQ118
      rw [l118, y118, z118] at X118
      obtain ⟨rfl, rfl, e118⟩ := hQ118
      have X118 : Stand p l e _ (s.setVm T117.vm) m #[(.int p0), (.int p1)] below meth c T118 [] 2 20 := X118
      refine OGets.step st118 ?_
      show OGets p e below _ (T118.setTop (mkF m 57 #[.val (.int p0), .val (.int p1), .val (.int (p1 &&& (3 : Int32))), .val (.int (p0 &&& (255 : Int32)))] [(.int (f_expd (p0 &&& (255 : Int32)))), (.int (f_isu (p0 &&& (255 : Int32))))]))
      refine OGets.step (fun _ => XS.icmpNo X118.here hx rfl (hb hby at_57) rfl (teq (own_alike _ : (f_isu (p0 &&& (255 : Int32))) = (f_expd (p0 &&& (255 : Int32))))).2) ?_
      show OGets p e below _ (T118.setTop (mkF m 60 #[.val (.int p0), .val (.int p1), .val (.int (p1 &&& (3 : Int32))), .val (.int (p0 &&& (255 : Int32)))] []))
      refine OGets.step (fun _ => XS.iconst X118.here hx rfl (hb hby at_60)) ?_
      show OGets p e below _ (T118.setTop (mkF m 61 #[.val (.int p0), .val (.int p1), .val (.int (p1 &&& (3 : Int32))), .val (.int (p0 &&& (255 : Int32)))] [(.int (1 : Int32))]))
      refine OGets.step (fun _ => XS.goto X118.here hx rfl (pc0 := 61) (pc' := 65) rfl (hb hby at_61) (by decide) (by decide)) ?_
      show OGets p e below _ (T118.setTop (mkF m 65 #[.val (.int p0), .val (.int p1), .val (.int (p1 &&& (3 : Int32))), .val (.int (p0 &&& (255 : Int32)))] [(.int (1 : Int32))]))
      refine OGets.retNW X118 hx hlk (t := .boolean) Bd.returns (by simp) (hb hby at_65) S117 (by rw [e118]; exact (Nat.le_refl _)) (by rw [hh, e118]; exact R117.trans (CHv.at X118 hZ117 hEL R117.1)) (Nat.le_of_ble_eq_true rfl) (Nat.le_of_ble_eq_true rfl) ?_
      exact ⟨rfl, Fr.nil _⟩
    · refine OGets.step (fun _ => XS.icmpYes X0.here hx rfl (pc0 := 15) (pc' := 27) rfl (hb hby at_15) rfl (feq hc15_116).2 (by decide) (by decide)) ?_
      show OGets p e below _ (s₁.setTop (mkF m 27 #[.val (.int p0), .val (.int p1), .val (.int (p1 &&& (3 : Int32))), .unset] []))
      refine OGets.step (fun _ => XS.iloadN X0.here hx rfl (hb hby at_27) rfl) ?_
      show OGets p e below _ (s₁.setTop (mkF m 28 #[.val (.int p0), .val (.int p1), .val (.int (p1 &&& (3 : Int32))), .unset] [(.int (p1 &&& (3 : Int32)))]))
      refine OGets.step (fun _ => XS.iconst X0.here hx rfl (hb hby at_28)) ?_
      show OGets p e below _ (s₁.setTop (mkF m 29 #[.val (.int p0), .val (.int p1), .val (.int (p1 &&& (3 : Int32))), .unset] [(.int (2 : Int32)), (.int (p1 &&& (3 : Int32)))]))
      by_cases hc29_120 : (p1 &&& (3 : Int32)) = (2 : Int32)
      · refine OGets.step (fun _ => XS.icmpNo X0.here hx rfl (hb hby at_29) rfl (teq hc29_120).2) ?_
        show OGets p e below _ (s₁.setTop (mkF m 32 #[.val (.int p0), .val (.int p1), .val (.int (p1 &&& (3 : Int32))), .unset] []))
        refine OGets.step (fun _ => XS.iloadN X0.here hx rfl (hb hby at_32) rfl) ?_
        show OGets p e below _ (s₁.setTop (mkF m 33 #[.val (.int p0), .val (.int p1), .val (.int (p1 &&& (3 : Int32))), .unset] [(.int p0)]))
        refine OGets.step (fun _ => XS.bipush X0.here hx rfl (hb hby at_33)) ?_
        show OGets p e below _ (s₁.setTop (mkF m 35 #[.val (.int p0), .val (.int p1), .val (.int (p1 &&& (3 : Int32))), .unset] [(.int (127 : Int32)), (.int p0)]))
        refine OGets.step (fun _ => XS.iand X0.here hx rfl (hb hby at_35) rfl) ?_
        show OGets p e below _ (s₁.setTop (mkF m 36 #[.val (.int p0), .val (.int p1), .val (.int (p1 &&& (3 : Int32))), .unset] [(.int (p0 &&& (127 : Int32)))]))
        refine OGets.step (fun _ => XS.istoreN X0.here hx rfl (hb hby at_36) rfl (l' := #[.val (.int p0), .val (.int p1), .val (.int (p1 &&& (3 : Int32))), .val (.int (p0 &&& (127 : Int32)))]) rfl) ?_
        show OGets p e below _ (s₁.setTop (mkF m 37 #[.val (.int p0), .val (.int p1), .val (.int (p1 &&& (3 : Int32))), .val (.int (p0 &&& (127 : Int32)))] []))
        refine OGets.step (fun _ => XS.goto X0.here hx rfl (pc0 := 37) (pc' := 49) rfl (hb hby at_37) (by decide) (by decide)) ?_
        show OGets p e below _ (s₁.setTop (mkF m 49 #[.val (.int p0), .val (.int p1), .val (.int (p1 &&& (3 : Int32))), .val (.int (p0 &&& (127 : Int32)))] []))
        refine OGets.step (fun _ => XS.iloadN X0.here hx rfl (hb hby at_49) rfl) ?_
        show OGets p e below _ (s₁.setTop (mkF m 50 #[.val (.int p0), .val (.int p1), .val (.int (p1 &&& (3 : Int32))), .val (.int (p0 &&& (127 : Int32)))] [(.int (p0 &&& (127 : Int32)))]))
        have Xw121 : Stand p l e _ (s.setVm s.vm) m #[(.int p0), (.int p1)] below meth c s₁ _ _ _ := X0
        obtain ⟨_, _, ⟨T121, L121, k121, n121⟩, -, X121', S121', hgr121, ⟨Lc121, hQ121, l121, y121, z121, hC121⟩, st121⟩ := callSS Xw121 hx (y := (⟨"com/example/hermod/hermod/PercentEncoding", "isUnreserved", "(I)Z"⟩ : MethodName)) hown (mvT hZ (hw _ (List.mem_of_getElem? (i := 1) rfl))) (mvT hZ (hw _ (List.mem_of_getElem? (i := 2) rfl))) (mvT hZ (hw _ (List.mem_of_getElem? (i := 3) rfl))) (mvT hZ (hw _ (List.mem_of_getElem? (i := 4) rfl))) (by decide) (backOfSH (EL := EL) (W := 0) (rm_isu l Z a0 hw [] (p0 &&& (127 : Int32)) G EL h0 n0  Z0 S0 hG hm9 hEL) hZ (hw _ (List.mem_of_getElem? (i := 4) rfl)) (hw _ (List.mem_of_getElem? (i := 3) rfl)) (by decide) (by decide) hEL hCH) (g := (mkF m 50 #[.val (.int p0), .val (.int p1), .val (.int (p1 &&& (3 : Int32))), .val (.int (p0 &&& (127 : Int32)))] [(.int (p0 &&& (127 : Int32)))])) rfl (by rw [hml]; rfl) (argsL := [(.int (p0 &&& (127 : Int32)))]) (rest := []) (lenOf pd_3 rfl) rfl (by show 2 * 0 + _ ≤ _; exact Nat.le_of_eq rfl) (hb hby at_50) (fun _ _ => ⟨rfl, e0, Nat.le_of_ble_eq_true rfl, Nat.le_of_ble_eq_true rfl⟩)
        dsimp only [Pt.U, Pt.locs, Pt.cells, Pt.slots] at X121' S121' hgr121 l121 y121 z121 st121 hQ121 hC121
        rw [l121, y121, z121] at X121'
        have X121 : Stand p l e _ (s.setVm T121.vm) m #[(.int p0), (.int p1)] below meth c T121 _ _ _ := X121'
        have S121 : s.Since T121.vm T121.heap.size := S121'
        have hZ121 : Z.Warmed39 (s.setVm T121.vm).vm := State.Warmed39.trans (t := (s.setVm s.vm)) hZ S121'.1
        have hown121 : (s.setVm T121.vm).vm.findClass "com/example/hermod/hermod/PercentEncodingIsUnreservedPinLaw" = some m.cls := by rw [show (s.setVm T121.vm).vm = T121.vm from rfl, S121'.1.alike.findClass]; exact hown
        obtain ⟨rfl, rfl, E121⟩ := hQ121
        have R121 : CHr Z EL s.vm h0 T121.vm T121.heap := hC121
        refine OGets.after st121 ?_
        show OGets p e below _ (T121.setTop (mkF m 53 #[.val (.int p0), .val (.int p1), .val (.int (p1 &&& (3 : Int32))), .val (.int (p0 &&& (127 : Int32)))] [(.int (f_isu (p0 &&& (127 : Int32))))]))
        refine OGets.step (fun _ => XS.iloadN X121.here hx rfl (hb hby at_53) rfl) ?_
        show OGets p e below _ (T121.setTop (mkF m 54 #[.val (.int p0), .val (.int p1), .val (.int (p1 &&& (3 : Int32))), .val (.int (p0 &&& (127 : Int32)))] [(.int (p0 &&& (127 : Int32))), (.int (f_isu (p0 &&& (127 : Int32))))]))
        obtain ⟨_, _, ⟨T122, L122, k122, n122⟩, -, X122, ⟨Lc122, hQ122, l122, y122, z122⟩, st122⟩ := Jvm.LawKit.callS X121 hx (y := (⟨"com/example/hermod/hermod/PercentEncodingIsUnreservedPinLaw", "expected", "(I)Z"⟩ : MethodName)) hown121 (mvT hZ121 (hw _ (List.mem_of_getElem? (i := 48) rfl))) (mvT hZ121 (hw _ (List.mem_of_getElem? (i := 49) rfl))) (mvT hZ121 (hw _ (List.mem_of_getElem? (i := 50) rfl))) (mvT hZ121 (hw _ (List.mem_of_getElem? (i := 51) rfl))) (by decide) (backOf (W := 1) (rm_expd l Z a0 hw [] (p0 &&& (127 : Int32)) T121.heap n0  (Nat.le_trans Z0 E121.1) ) hZ121 (hw _ (List.mem_of_getElem? (i := 51) rfl)) (hw _ (List.mem_of_getElem? (i := 50) rfl)) (by decide) (by decide)) (g := (mkF m 54 #[.val (.int p0), .val (.int p1), .val (.int (p1 &&& (3 : Int32))), .val (.int (p0 &&& (127 : Int32)))] [(.int (p0 &&& (127 : Int32))), (.int (f_isu (p0 &&& (127 : Int32))))])) rfl (by rw [hml]; rfl) (argsL := [(.int (p0 &&& (127 : Int32)))]) (rest := [(.int (f_isu (p0 &&& (127 : Int32))))]) (lenOf pd_3 rfl) rfl (by show 2 * 0 + _ ≤ _; exact Nat.le_of_eq rfl) (hb hby at_54) (fun _ _ => ⟨rfl, rfl, Nat.le_of_ble_eq_true rfl, Nat.le_of_ble_eq_true rfl⟩)
        dsimp only [Pt.U, Pt.locs, Pt.cells, Pt.slots] at X122 l122 y122 z122 st122 hQ122
        rw [l122, y122, z122] at X122
        obtain ⟨rfl, rfl, e122⟩ := hQ122
        have X122 : Stand p l e _ (s.setVm T121.vm) m #[(.int p0), (.int p1)] below meth c T122 [] 2 20 := X122
        refine OGets.step st122 ?_
        show OGets p e below _ (T122.setTop (mkF m 57 #[.val (.int p0), .val (.int p1), .val (.int (p1 &&& (3 : Int32))), .val (.int (p0 &&& (127 : Int32)))] [(.int (f_expd (p0 &&& (127 : Int32)))), (.int (f_isu (p0 &&& (127 : Int32))))]))
        refine OGets.step (fun _ => XS.icmpNo X122.here hx rfl (hb hby at_57) rfl (teq (own_alike _ : (f_isu (p0 &&& (127 : Int32))) = (f_expd (p0 &&& (127 : Int32))))).2) ?_
        show OGets p e below _ (T122.setTop (mkF m 60 #[.val (.int p0), .val (.int p1), .val (.int (p1 &&& (3 : Int32))), .val (.int (p0 &&& (127 : Int32)))] []))
        refine OGets.step (fun _ => XS.iconst X122.here hx rfl (hb hby at_60)) ?_
        show OGets p e below _ (T122.setTop (mkF m 61 #[.val (.int p0), .val (.int p1), .val (.int (p1 &&& (3 : Int32))), .val (.int (p0 &&& (127 : Int32)))] [(.int (1 : Int32))]))
        refine OGets.step (fun _ => XS.goto X122.here hx rfl (pc0 := 61) (pc' := 65) rfl (hb hby at_61) (by decide) (by decide)) ?_
        show OGets p e below _ (T122.setTop (mkF m 65 #[.val (.int p0), .val (.int p1), .val (.int (p1 &&& (3 : Int32))), .val (.int (p0 &&& (127 : Int32)))] [(.int (1 : Int32))]))
        refine OGets.retNW X122 hx hlk (t := .boolean) Bd.returns (by simp) (hb hby at_65) S121 (by rw [e122]; exact (Nat.le_refl _)) (by rw [hh, e122]; exact R121.trans (CHv.at X122 hZ121 hEL R121.1)) (Nat.le_of_ble_eq_true rfl) (Nat.le_of_ble_eq_true rfl) ?_
        exact ⟨rfl, Fr.nil _⟩
      · refine OGets.step (fun _ => XS.icmpYes X0.here hx rfl (pc0 := 29) (pc' := 40) rfl (hb hby at_29) rfl (feq hc29_120).2 (by decide) (by decide)) ?_
        show OGets p e below _ (s₁.setTop (mkF m 40 #[.val (.int p0), .val (.int p1), .val (.int (p1 &&& (3 : Int32))), .unset] []))
        refine OGets.step (fun _ => XS.iloadN X0.here hx rfl (hb hby at_40) rfl) ?_
        show OGets p e below _ (s₁.setTop (mkF m 41 #[.val (.int p0), .val (.int p1), .val (.int (p1 &&& (3 : Int32))), .unset] [(.int p0)]))
        refine OGets.step (fun _ => XS.sipush X0.here hx rfl (hb hby at_41)) ?_
        show OGets p e below _ (s₁.setTop (mkF m 44 #[.val (.int p0), .val (.int p1), .val (.int (p1 &&& (3 : Int32))), .unset] [(.int (255 : Int32)), (.int p0)]))
        refine OGets.step (fun _ => XS.iand X0.here hx rfl (hb hby at_44) rfl) ?_
        show OGets p e below _ (s₁.setTop (mkF m 45 #[.val (.int p0), .val (.int p1), .val (.int (p1 &&& (3 : Int32))), .unset] [(.int (p0 &&& (255 : Int32)))]))
        refine OGets.step (fun _ => X0.ldcInt hx hown (mvT hZ (hw _ (List.mem_of_getElem? (i := 0) rfl))) (g := (mkF m 45 #[.val (.int p0), .val (.int p1), .val (.int (p1 &&& (3 : Int32))), .unset] [(.int (p0 &&& (255 : Int32)))])) rfl (hb hby at_45) _) ?_
        show OGets p e below _ (s₁.setTop (mkF m 47 #[.val (.int p0), .val (.int p1), .val (.int (p1 &&& (3 : Int32))), .unset] [(.int (65536 : Int32)), (.int (p0 &&& (255 : Int32)))]))
        refine OGets.step (fun _ => XS.ior X0.here hx rfl (hb hby at_47) rfl) ?_
        show OGets p e below _ (s₁.setTop (mkF m 48 #[.val (.int p0), .val (.int p1), .val (.int (p1 &&& (3 : Int32))), .unset] [(.int ((p0 &&& (255 : Int32)) ||| (65536 : Int32)))]))
        refine OGets.step (fun _ => XS.istoreN X0.here hx rfl (hb hby at_48) rfl (l' := #[.val (.int p0), .val (.int p1), .val (.int (p1 &&& (3 : Int32))), .val (.int ((p0 &&& (255 : Int32)) ||| (65536 : Int32)))]) rfl) ?_
        show OGets p e below _ (s₁.setTop (mkF m 49 #[.val (.int p0), .val (.int p1), .val (.int (p1 &&& (3 : Int32))), .val (.int ((p0 &&& (255 : Int32)) ||| (65536 : Int32)))] []))
        refine OGets.step (fun _ => XS.iloadN X0.here hx rfl (hb hby at_49) rfl) ?_
        show OGets p e below _ (s₁.setTop (mkF m 50 #[.val (.int p0), .val (.int p1), .val (.int (p1 &&& (3 : Int32))), .val (.int ((p0 &&& (255 : Int32)) ||| (65536 : Int32)))] [(.int ((p0 &&& (255 : Int32)) ||| (65536 : Int32)))]))
        have Xw124 : Stand p l e _ (s.setVm s.vm) m #[(.int p0), (.int p1)] below meth c s₁ _ _ _ := X0
        obtain ⟨_, _, ⟨T124, L124, k124, n124⟩, -, X124', S124', hgr124, ⟨Lc124, hQ124, l124, y124, z124, hC124⟩, st124⟩ := callSS Xw124 hx (y := (⟨"com/example/hermod/hermod/PercentEncoding", "isUnreserved", "(I)Z"⟩ : MethodName)) hown (mvT hZ (hw _ (List.mem_of_getElem? (i := 1) rfl))) (mvT hZ (hw _ (List.mem_of_getElem? (i := 2) rfl))) (mvT hZ (hw _ (List.mem_of_getElem? (i := 3) rfl))) (mvT hZ (hw _ (List.mem_of_getElem? (i := 4) rfl))) (by decide) (backOfSH (EL := EL) (W := 0) (rm_isu l Z a0 hw [] ((p0 &&& (255 : Int32)) ||| (65536 : Int32)) G EL h0 n0  Z0 S0 hG hm9 hEL) hZ (hw _ (List.mem_of_getElem? (i := 4) rfl)) (hw _ (List.mem_of_getElem? (i := 3) rfl)) (by decide) (by decide) hEL hCH) (g := (mkF m 50 #[.val (.int p0), .val (.int p1), .val (.int (p1 &&& (3 : Int32))), .val (.int ((p0 &&& (255 : Int32)) ||| (65536 : Int32)))] [(.int ((p0 &&& (255 : Int32)) ||| (65536 : Int32)))])) rfl (by rw [hml]; rfl) (argsL := [(.int ((p0 &&& (255 : Int32)) ||| (65536 : Int32)))]) (rest := []) (lenOf pd_3 rfl) rfl (by show 2 * 0 + _ ≤ _; exact Nat.le_of_eq rfl) (hb hby at_50) (fun _ _ => ⟨rfl, e0, Nat.le_of_ble_eq_true rfl, Nat.le_of_ble_eq_true rfl⟩)
        dsimp only [Pt.U, Pt.locs, Pt.cells, Pt.slots] at X124' S124' hgr124 l124 y124 z124 st124 hQ124 hC124
        rw [l124, y124, z124] at X124'
        have X124 : Stand p l e _ (s.setVm T124.vm) m #[(.int p0), (.int p1)] below meth c T124 _ _ _ := X124'
        have S124 : s.Since T124.vm T124.heap.size := S124'
        have hZ124 : Z.Warmed39 (s.setVm T124.vm).vm := State.Warmed39.trans (t := (s.setVm s.vm)) hZ S124'.1
        have hown124 : (s.setVm T124.vm).vm.findClass "com/example/hermod/hermod/PercentEncodingIsUnreservedPinLaw" = some m.cls := by rw [show (s.setVm T124.vm).vm = T124.vm from rfl, S124'.1.alike.findClass]; exact hown
        obtain ⟨rfl, rfl, E124⟩ := hQ124
        have R124 : CHr Z EL s.vm h0 T124.vm T124.heap := hC124
        refine OGets.after st124 ?_
        show OGets p e below _ (T124.setTop (mkF m 53 #[.val (.int p0), .val (.int p1), .val (.int (p1 &&& (3 : Int32))), .val (.int ((p0 &&& (255 : Int32)) ||| (65536 : Int32)))] [(.int (f_isu ((p0 &&& (255 : Int32)) ||| (65536 : Int32))))]))
        refine OGets.step (fun _ => XS.iloadN X124.here hx rfl (hb hby at_53) rfl) ?_
        show OGets p e below _ (T124.setTop (mkF m 54 #[.val (.int p0), .val (.int p1), .val (.int (p1 &&& (3 : Int32))), .val (.int ((p0 &&& (255 : Int32)) ||| (65536 : Int32)))] [(.int ((p0 &&& (255 : Int32)) ||| (65536 : Int32))), (.int (f_isu ((p0 &&& (255 : Int32)) ||| (65536 : Int32))))]))
        obtain ⟨_, _, ⟨T125, L125, k125, n125⟩, -, X125, ⟨Lc125, hQ125, l125, y125, z125⟩, st125⟩ := Jvm.LawKit.callS X124 hx (y := (⟨"com/example/hermod/hermod/PercentEncodingIsUnreservedPinLaw", "expected", "(I)Z"⟩ : MethodName)) hown124 (mvT hZ124 (hw _ (List.mem_of_getElem? (i := 48) rfl))) (mvT hZ124 (hw _ (List.mem_of_getElem? (i := 49) rfl))) (mvT hZ124 (hw _ (List.mem_of_getElem? (i := 50) rfl))) (mvT hZ124 (hw _ (List.mem_of_getElem? (i := 51) rfl))) (by decide) (backOf (W := 1) (rm_expd l Z a0 hw [] ((p0 &&& (255 : Int32)) ||| (65536 : Int32)) T124.heap n0  (Nat.le_trans Z0 E124.1) ) hZ124 (hw _ (List.mem_of_getElem? (i := 51) rfl)) (hw _ (List.mem_of_getElem? (i := 50) rfl)) (by decide) (by decide)) (g := (mkF m 54 #[.val (.int p0), .val (.int p1), .val (.int (p1 &&& (3 : Int32))), .val (.int ((p0 &&& (255 : Int32)) ||| (65536 : Int32)))] [(.int ((p0 &&& (255 : Int32)) ||| (65536 : Int32))), (.int (f_isu ((p0 &&& (255 : Int32)) ||| (65536 : Int32))))])) rfl (by rw [hml]; rfl) (argsL := [(.int ((p0 &&& (255 : Int32)) ||| (65536 : Int32)))]) (rest := [(.int (f_isu ((p0 &&& (255 : Int32)) ||| (65536 : Int32))))]) (lenOf pd_3 rfl) rfl (by show 2 * 0 + _ ≤ _; exact Nat.le_of_eq rfl) (hb hby at_54) (fun _ _ => ⟨rfl, rfl, Nat.le_of_ble_eq_true rfl, Nat.le_of_ble_eq_true rfl⟩)
        dsimp only [Pt.U, Pt.locs, Pt.cells, Pt.slots] at X125 l125 y125 z125 st125 hQ125
        rw [l125, y125, z125] at X125
        obtain ⟨rfl, rfl, e125⟩ := hQ125
        have X125 : Stand p l e _ (s.setVm T124.vm) m #[(.int p0), (.int p1)] below meth c T125 [] 2 20 := X125
        refine OGets.step st125 ?_
        show OGets p e below _ (T125.setTop (mkF m 57 #[.val (.int p0), .val (.int p1), .val (.int (p1 &&& (3 : Int32))), .val (.int ((p0 &&& (255 : Int32)) ||| (65536 : Int32)))] [(.int (f_expd ((p0 &&& (255 : Int32)) ||| (65536 : Int32)))), (.int (f_isu ((p0 &&& (255 : Int32)) ||| (65536 : Int32))))]))
        refine OGets.step (fun _ => XS.icmpNo X125.here hx rfl (hb hby at_57) rfl (teq (own_alike _ : (f_isu ((p0 &&& (255 : Int32)) ||| (65536 : Int32))) = (f_expd ((p0 &&& (255 : Int32)) ||| (65536 : Int32))))).2) ?_
        show OGets p e below _ (T125.setTop (mkF m 60 #[.val (.int p0), .val (.int p1), .val (.int (p1 &&& (3 : Int32))), .val (.int ((p0 &&& (255 : Int32)) ||| (65536 : Int32)))] []))
        refine OGets.step (fun _ => XS.iconst X125.here hx rfl (hb hby at_60)) ?_
        show OGets p e below _ (T125.setTop (mkF m 61 #[.val (.int p0), .val (.int p1), .val (.int (p1 &&& (3 : Int32))), .val (.int ((p0 &&& (255 : Int32)) ||| (65536 : Int32)))] [(.int (1 : Int32))]))
        refine OGets.step (fun _ => XS.goto X125.here hx rfl (pc0 := 61) (pc' := 65) rfl (hb hby at_61) (by decide) (by decide)) ?_
        show OGets p e below _ (T125.setTop (mkF m 65 #[.val (.int p0), .val (.int p1), .val (.int (p1 &&& (3 : Int32))), .val (.int ((p0 &&& (255 : Int32)) ||| (65536 : Int32)))] [(.int (1 : Int32))]))
        refine OGets.retNW X125 hx hlk (t := .boolean) Bd.returns (by simp) (hb hby at_65) S124 (by rw [e125]; exact (Nat.le_refl _)) (by rw [hh, e125]; exact R124.trans (CHv.at X125 hZ124 hEL R124.1)) (Nat.le_of_ble_eq_true rfl) (Nat.le_of_ble_eq_true rfl) ?_
        exact ⟨rfl, Fr.nil _⟩

set_option maxRecDepth 65536 in
set_option maxHeartbeats 40000000 in
theorem comes_1 {Post : Tables → Env → Array Value → State → Outcome → State → Prop} (hpost : ∀ tb e args s v u, (limb_1_1.after args s (.returned v) u = true ∧ limb_1_2.after args s (.returned v) u = true ∧ True) → ReturnedEndW s (.returned v) u (Jvm.fieldLocs frame_1_writes args s ++ Jvm.arrayLocs frame_1_arrays args s ++ Jvm.staticLocs frame_1_statics s) 8 1088 → Post tb e args s (.returned v) u) :
    ArmFor flags0 classFile x code maxLocals ret World_1 tables_1 room_1 Calls_1 rest_1 Pre_1 Post := by
  intro l hfl _ _ p e ha hc hk s m args below hf hA hF happ hP
  obtain ⟨hcalls, hrest, hpre⟩ := hP
  obtain ⟨-, -, -, hnamed, -, -, -, hat⟩ := (Spec.applies_iff hf).mp happ
  obtain ⟨hg, hn⟩ := and_e (Cond.before_iff.mp (show (Jvm.Cond.and given_1 narrow_1).before args s = true from hpre))
  obtain ⟨hcount, hg0⟩ := and_e hg
  obtain ⟨ga0, hg1⟩ := and_e hg0
  have ga1 := hg1
  obtain ⟨w0, w1, rfl⟩ : ∃ w0 w1 : Value, args = #[w0, w1] := by
    have hs : args.size = 2 := by simpa [Cond.value, given_1] using hcount
    obtain ⟨L⟩ := args
    match L, hs with
    | [w0, w1], _ => exact ⟨w0, w1, rfl⟩
  have hw := fun d (hd : d ∈ tables_1) => atoms_spec (ws := Jvm.Cond.code x code maxLocals ret :: tables_1) hat d (List.mem_cons_of_mem _ hd)
  obtain ⟨i0, ei0⟩ := is_v ga0
  obtain rfl : w0 = (.int i0) := Option.some.inj ei0
  obtain ⟨i1, ei1⟩ := is_v ga1
  obtain rfl : w1 = (.int i1) := Option.some.inj ei1
  obtain ⟨hsets, hown0⟩ := atoms_of _ (rest_1_c_eq ▸ (show rest_1_c.before _ s = true from hrest))
  obtain ⟨G, eG⟩ := is_v (Cond.before_iff.mp (hsets _ (List.mem_of_getElem? (i := 1) rfl)))
  have S0 : Sta s s.heap "java/lang/String" "COMPACT_STRINGS" "Z" (.int G) := Sta.start eG (Or.inl (hsets _ (List.mem_of_getElem? (i := 0) rfl)))
  have hG : ¬ (G = (0 : Int32)) := gotF (Cond.eq_ints eG (Term.int_eval (0))) (not_v (Cond.before_iff.mp (hsets _ (List.mem_of_getElem? (i := 2) rfl))))
  have hEL : EW s _ [("com/example/hermod/hermod/PercentEncoding", 9)] := (EW.cons (hw _ (List.mem_of_getElem? (i := 5) rfl)) (by decide +kernel) EW.nil)
  have hCH : CHv s [("com/example/hermod/hermod/PercentEncoding", 9)] s.vm s.heap := CHv.start hEL (fun p hp => hcalls.1 p hp) (hsets _ (List.mem_of_getElem? (i := 2) rfl)) (hw _ (List.mem_of_getElem? (i := 8) rfl)) (hw _ (List.mem_of_getElem? (i := 7) rfl))
  obtain ⟨n, o, h1, h2, h3, _, L, rfl, ⟨rfl, N⟩, -, hq⟩ := rm_law l s _ hw tables_1 i0 i1 G [("com/example/hermod/hermod/PercentEncoding", 9)] s.heap s.heap.size (Nat.le_refl _) S0 hG (by simp) hEL p e ha hc hk s m _ below hf ((Spec.applies_iff_loose hf).mp happ).1 ⟨rfl, State.Warmed39.refl s, rfl, hCH⟩ trivial
  refine ⟨n, _, h1, h2, h3, hpost _ _ _ _ _ _ ⟨Cond.after_iff.mpr rfl, Cond.after_iff.mpr (eq_i res_at (Term.int_eval (1)) rfl), trivial⟩ ⟨hq.1, hq.2.1, hq.2.2.1, (hq.2.2.2.sift fun y hy => Or.inr (N y hy)).mono (by decide) (by decide)⟩⟩
theorem main_1_1 : Claimed_1_1 := comes_1 fun _ _ _ _ _ _ h hF => ⟨h.1, hF⟩
theorem main_1_2 : Claimed_1_2 := comes_1 fun _ _ _ _ _ _ h hF => ⟨h.2.1, hF⟩
end Jvm.Pilot.@@N@@
namespace Jvm.Pilot.@@N@@
open Jvm Jvm.ClassFile Sem Op Lib Jvm.Free Jvm.Stand Jvm.Pilot.@@N@@.Jvm.D
/-! MADE BY PROGRAM (witnessworld.py) out of the Statement's table words and the real class files: 18 classes; the members and pool entries that the words name. The judged class is class 1, her method 3. -/
namespace start1
open Jvm.ClassFile
def u (s : String) : CpInfo := .utf8 (stringToUtf16 s)
/-- a pool by its gaps: so many unusable entries, then the entry; so many at the end -/
def gap : Nat → List CpInfo → List CpInfo
  | 0, r => r
  | n + 1, r => .unusable :: gap n r
def poolList (es : List (Nat × CpInfo)) (last : Nat) : List CpInfo := es.foldr (fun e r => gap e.1 (e.2 :: r)) (gap last [])
def pool (es : List (Nat × CpInfo)) (last : Nat) : Array CpInfo := ⟨poolList es last⟩
def fileOf (pool : Array CpInfo) (this : Nat) (attrs : Array Attribute := #[]) (ms : Array MethodInfo := #[]) (fl : Nat := 33) (sup : Nat := 0) (ifs : Array Nat := #[]) (fds : Array FieldInfo := #[]) : ClassFile where
  minorVersion := 0
  majorVersion := 65
  constantPool := pool
  accessFlags := fl
  thisClass := this
  superClass := sup
  interfaces := ifs
  fields := fds
  methods := ms
  attributes := attrs
def plain (name : String) (sup : Option ClassId) : Class where
  name := name
  kind := .ordinary
  loader := none
  accessFlags := 33
  super := sup
  interfaces := #[]
  cf := none
  fields := #[]
  methods := #[]
  instanceTypes := #[]
  staticTypes := #[]
  resolved := #[]
  callSites := []
  init := .initialized
  statics := none
  mirror := none

def pool0 : Array CpInfo := pool [(5, u "<init>"), (0, u "()V"), (1, .class_ 10), (1, u "java/lang/Object")] 113

def k0m0 : Method := { name := "<init>", desc := "()V", sig := { parameters := [], returnType := none }, accessFlags := 1, code := none }
/-- java/lang/Object -/
def k0 : Class := { plain "java/lang/Object" none with
  accessFlags := 33
  interfaces := #[]
  cf := some (fileOf pool0 8 #[] #[{ accessFlags := 1, nameIndex := 5, descriptorIndex := 6, attributes := #[] }] 33 0 #[] #[])
  fields := #[]
  methods := #[k0m0]
  instanceTypes := #[]
  staticTypes := #[]
  resolved := Array.replicate 124 none
  statics := none }

def pool1 : Array CpInfo := pool [(2, .class_ 4), (1, u "java/lang/Object"), (0, u "<init>"), (0, u "()V"), (0, .methodref 8 9), (0, .class_ 10), (0, .nameAndType 11 12), (0, u "com/example/hermod/hermod/PercentEncodingIsUnreservedPinLaw"), (0, u "inRange"), (0, u "(III)Z"), (0, .integer 65536), (0, .methodref 15 16), (0, .class_ 17), (0, .nameAndType 18 19), (0, u "com/example/hermod/hermod/PercentEncoding"), (0, u "isUnreserved"), (0, u "(I)Z"), (0, .methodref 8 21), (0, .nameAndType 22 19), (0, u "expected"), (3, u "law"), (0, u "(II)Z")] 2

def k1m0 : Method := { name := "<init>", desc := "()V", sig := { parameters := [], returnType := none }, accessFlags := 2, code := none }
def k1c1 : Code := { maxStack := 2, maxLocals := 3, code := method_2_code, exceptionTable := #[], attributes := #[] }
def k1m1 : Method := { name := "inRange", desc := "(III)Z", sig := { parameters := [.int, .int, .int], returnType := some .boolean }, accessFlags := 10, code := some k1c1 }
def k1c2 : Code := { maxStack := 3, maxLocals := 1, code := method_3_code, exceptionTable := #[], attributes := #[] }
def k1m2 : Method := { name := "expected", desc := "(I)Z", sig := { parameters := [.int], returnType := some .boolean }, accessFlags := 10, code := some k1c2 }
def k1c3 : Code := { maxStack := 2, maxLocals := 4, code := code, exceptionTable := #[], attributes := #[] }
def k1m3 : Method := { name := "law", desc := "(II)Z", sig := { parameters := [.int, .int], returnType := some .boolean }, accessFlags := 9, code := some k1c3 }
/-- com/example/hermod/hermod/PercentEncodingIsUnreservedPinLaw -/
def k1 : Class := { plain "com/example/hermod/hermod/PercentEncodingIsUnreservedPinLaw" (some 0) with
  accessFlags := 49
  interfaces := #[]
  cf := some (fileOf pool1 8 #[] #[{ accessFlags := 2, nameIndex := 5, descriptorIndex := 6, attributes := #[] }, { accessFlags := 10, nameIndex := 11, descriptorIndex := 12, attributes := #[] }, { accessFlags := 10, nameIndex := 22, descriptorIndex := 19, attributes := #[] }, { accessFlags := 9, nameIndex := 26, descriptorIndex := 27, attributes := #[] }] 49 2 #[] #[])
  fields := #[]
  methods := #[k1m0, k1m1, k1m2, k1m3]
  instanceTypes := #[]
  staticTypes := #[]
  resolved := Array.replicate 30 none
  statics := none }

def pool2 : Array CpInfo := pool [(2, .class_ 4), (1, u "java/lang/Object"), (0, u "<init>"), (0, u "()V"), (0, .class_ 8), (0, u "com/example/hermod/hermod/PercentEncoding"), (0, .string 10), (0, u "-._~"), (0, .methodref 12 13), (0, .class_ 14), (0, .nameAndType 15 16), (0, u "java/lang/String"), (0, u "indexOf"), (0, u "(I)I"), (2, u "isUnreserved"), (0, u "(I)Z"), (30, u "DOTS_WRITTEN_LONGEST"), (0, u "I"), (94, u "UNRESERVED_PUNCTUATION"), (0, u "Ljava/lang/String;"), (1, u "PATH_DELIMITERS"), (0, u "HEX_DIGITS")] 29

def k2m0 : Method := { name := "<init>", desc := "()V", sig := { parameters := [], returnType := none }, accessFlags := 2, code := none }
def k2c1 : Code := { maxStack := 2, maxLocals := 1, code := prog_11_method_2_code, exceptionTable := #[], attributes := #[] }
def k2m1 : Method := { name := "isUnreserved", desc := "(I)Z", sig := { parameters := [.int], returnType := some .boolean }, accessFlags := 8, code := some k2c1 }
/-- com/example/hermod/hermod/PercentEncoding -/
def k2 : Class := { plain "com/example/hermod/hermod/PercentEncoding" (some 0) with
  accessFlags := 32
  interfaces := #[]
  cf := some (fileOf pool2 7 #[] #[{ accessFlags := 2, nameIndex := 5, descriptorIndex := 6, attributes := #[] }, { accessFlags := 8, nameIndex := 19, descriptorIndex := 20, attributes := #[] }] 32 2 #[] #[{ accessFlags := 26, nameIndex := 147, descriptorIndex := 148, attributes := #[] }, { accessFlags := 26, nameIndex := 150, descriptorIndex := 148, attributes := #[] }, { accessFlags := 26, nameIndex := 51, descriptorIndex := 52, attributes := #[] }, { accessFlags := 26, nameIndex := 151, descriptorIndex := 148, attributes := #[] }])
  fields := #[{ name := "UNRESERVED_PUNCTUATION", type := (.object "java/lang/String"), accessFlags := 26, slot := 0, constantValue := 0 }, { name := "PATH_DELIMITERS", type := (.object "java/lang/String"), accessFlags := 26, slot := 1, constantValue := 0 }, { name := "DOTS_WRITTEN_LONGEST", type := .int, accessFlags := 26, slot := 2, constantValue := 0 }, { name := "HEX_DIGITS", type := (.object "java/lang/String"), accessFlags := 26, slot := 3, constantValue := 0 }]
  methods := #[k2m0, k2m1]
  instanceTypes := #[]
  staticTypes := #[(.object "java/lang/String"), (.object "java/lang/String"), .int, (.object "java/lang/String")]
  resolved := Array.replicate 181 none
  statics := none }

def pool3 : Array CpInfo := pool [(1, .class_ 2), (0, u "java/io/Serializable"), (0, .class_ 4), (0, u "java/lang/Object")] 2

/-- java/io/Serializable -/
def k3 : Class := { plain "java/io/Serializable" (some 0) with
  accessFlags := 1537
  interfaces := #[]
  cf := some (fileOf pool3 1 #[] #[] 1537 3 #[] #[])
  fields := #[]
  methods := #[]
  instanceTypes := #[]
  staticTypes := #[]
  resolved := Array.replicate 7 none
  statics := none }

def pool4 : Array CpInfo := pool [(1, .class_ 2), (0, u "java/lang/Comparable"), (0, .class_ 4), (0, u "java/lang/Object")] 7

/-- java/lang/Comparable -/
def k4 : Class := { plain "java/lang/Comparable" (some 0) with
  accessFlags := 1537
  interfaces := #[]
  cf := some (fileOf pool4 1 #[] #[] 1537 3 #[] #[])
  fields := #[]
  methods := #[]
  instanceTypes := #[]
  staticTypes := #[]
  resolved := Array.replicate 12 none
  statics := none }

def pool5 : Array CpInfo := pool [(2, .class_ 4), (1, u "java/lang/CharSequence"), (42, .class_ 48), (0, u "java/lang/CharSequence$1CodePointIterator"), (10, .class_ 60), (0, u "java/lang/CharSequence$1CharIterator"), (5, .class_ 67), (0, u "java/lang/Object")] 63

/-- java/lang/CharSequence -/
def k5 : Class := { plain "java/lang/CharSequence" (some 0) with
  accessFlags := 1537
  interfaces := #[]
  cf := some (fileOf pool5 2 #[.nestMembers #[47, 59]] #[] 1537 66 #[] #[])
  fields := #[]
  methods := #[]
  instanceTypes := #[]
  staticTypes := #[]
  resolved := Array.replicate 131 none
  statics := none }

def pool6 : Array CpInfo := pool [(1, .class_ 2), (0, u "java/lang/constant/Constable"), (0, .class_ 4), (0, u "java/lang/Object")] 6

/-- java/lang/constant/Constable -/
def k6 : Class := { plain "java/lang/constant/Constable" (some 0) with
  accessFlags := 1537
  interfaces := #[]
  cf := some (fileOf pool6 1 #[] #[] 1537 3 #[] #[])
  fields := #[]
  methods := #[]
  instanceTypes := #[]
  staticTypes := #[]
  resolved := Array.replicate 11 none
  statics := none }

def pool7 : Array CpInfo := pool [(1, .class_ 2), (0, u "java/lang/constant/ConstantDesc"), (0, .class_ 4), (0, u "java/lang/Object")] 32

/-- java/lang/constant/ConstantDesc -/
def k7 : Class := { plain "java/lang/constant/ConstantDesc" (some 0) with
  accessFlags := 1537
  interfaces := #[]
  cf := some (fileOf pool7 1 #[] #[] 1537 3 #[] #[])
  fields := #[]
  methods := #[]
  instanceTypes := #[]
  staticTypes := #[]
  resolved := Array.replicate 37 none
  statics := none }

def pool8 : Array CpInfo := pool [(2, .class_ 4), (1, u "java/lang/Object"), (0, u "<init>"), (0, u "()V"), (2, .fieldref 10 11), (0, .class_ 12), (0, .nameAndType 13 14), (0, u "java/lang/String"), (0, u "value"), (0, u "[B"), (0, .fieldref 10 16), (0, .nameAndType 17 18), (0, u "coder"), (0, u "B"), (2, u "hash"), (0, u "I"), (2, u "hashIsZero"), (0, u "Z"), (11, .fieldref 10 39), (0, .nameAndType 40 26), (0, u "COMPACT_STRINGS"), (66, .class_ 109), (1, u "java/lang/StringLatin1"), (32, u "()Z"), (191, u "()I"), (0, .methodref 10 336), (0, .nameAndType 17 337), (0, u "()B"), (154, .methodref 10 493), (0, .nameAndType 494 142), (0, u "isLatin1"), (10, .methodref 10 506), (0, .nameAndType 507 334), (0, u "length"), (67, .class_ 576), (0, u "java/lang/CharSequence"), (22, u "CASE_INSENSITIVE_ORDER"), (0, u "Ljava/util/Comparator;"), (32, .methodref 10 634), (0, .nameAndType 635 636), (0, u "indexOf"), (0, u "(II)I"), (0, .methodref 107 638), (0, .nameAndType 635 639), (0, u "([BIII)I"), (125, u "(I)I"), (335, u "serialPersistentFields"), (0, u "[Ljava/io/ObjectStreamField;"), (0, .class_ 1104), (0, u "java/lang/String$CaseInsensitiveComparator"), (1, .class_ 1107), (0, u "java/io/Serializable"), (0, .class_ 1109), (0, u "java/lang/Comparable"), (0, .class_ 1111), (0, u "java/lang/constant/Constable"), (0, .class_ 1113), (0, u "java/lang/constant/ConstantDesc"), (2, u "serialVersionUID"), (0, u "J"), (3, u "REPL"), (0, u "C"), (2, u "LATIN1"), (1, u "UTF16")] 323

def k8m0 : Method := { name := "<init>", desc := "()V", sig := { parameters := [], returnType := none }, accessFlags := 1, code := none }
def k8c1 : Code := { maxStack := 2, maxLocals := 1, code := jdk_42_method_54_code, exceptionTable := #[], attributes := #[] }
def k8m1 : Method := { name := "length", desc := "()I", sig := { parameters := [], returnType := some .int }, accessFlags := 1, code := some k8c1 }
def k8c2 : Code := { maxStack := 3, maxLocals := 2, code := jdk_42_method_79_code, exceptionTable := #[], attributes := #[] }
def k8m2 : Method := { name := "indexOf", desc := "(I)I", sig := { parameters := [.int], returnType := some .int }, accessFlags := 1, code := some k8c2 }
def k8c3 : Code := { maxStack := 4, maxLocals := 3, code := jdk_42_method_80_code, exceptionTable := #[], attributes := #[] }
def k8m3 : Method := { name := "indexOf", desc := "(II)I", sig := { parameters := [.int, .int], returnType := some .int }, accessFlags := 1, code := some k8c3 }
def k8c4 : Code := { maxStack := 1, maxLocals := 1, code := jdk_42_method_152_code, exceptionTable := #[], attributes := #[] }
def k8m4 : Method := { name := "coder", desc := "()B", sig := { parameters := [], returnType := some .byte }, accessFlags := 0, code := some k8c4 }
def k8c5 : Code := { maxStack := 1, maxLocals := 1, code := jdk_42_method_154_code, exceptionTable := #[], attributes := #[] }
def k8m5 : Method := { name := "isLatin1", desc := "()Z", sig := { parameters := [], returnType := some .boolean }, accessFlags := 0, code := some k8c5 }
/-- java/lang/String -/
def k8 : Class := { plain "java/lang/String" (some 0) with
  accessFlags := 49
  interfaces := #[3, 4, 5, 6, 7]
  cf := some (fileOf pool8 10 #[.nestMembers #[1103]] #[{ accessFlags := 1, nameIndex := 5, descriptorIndex := 6, attributes := #[] }, { accessFlags := 1, nameIndex := 507, descriptorIndex := 334, attributes := #[] }, { accessFlags := 1, nameIndex := 635, descriptorIndex := 765, attributes := #[] }, { accessFlags := 1, nameIndex := 635, descriptorIndex := 636, attributes := #[] }, { accessFlags := 0, nameIndex := 17, descriptorIndex := 337, attributes := #[] }, { accessFlags := 0, nameIndex := 494, descriptorIndex := 142, attributes := #[] }] 49 2 #[1106, 1108, 575, 1110, 1112] #[{ accessFlags := 18, nameIndex := 13, descriptorIndex := 14, attributes := #[] }, { accessFlags := 18, nameIndex := 17, descriptorIndex := 18, attributes := #[] }, { accessFlags := 2, nameIndex := 21, descriptorIndex := 22, attributes := #[] }, { accessFlags := 2, nameIndex := 25, descriptorIndex := 26, attributes := #[] }, { accessFlags := 26, nameIndex := 1116, descriptorIndex := 1117, attributes := #[] }, { accessFlags := 24, nameIndex := 40, descriptorIndex := 26, attributes := #[] }, { accessFlags := 26, nameIndex := 1101, descriptorIndex := 1102, attributes := #[] }, { accessFlags := 26, nameIndex := 1121, descriptorIndex := 1122, attributes := #[] }, { accessFlags := 25, nameIndex := 599, descriptorIndex := 600, attributes := #[] }, { accessFlags := 24, nameIndex := 1125, descriptorIndex := 18, attributes := #[] }, { accessFlags := 24, nameIndex := 1127, descriptorIndex := 18, attributes := #[] }])
  fields := #[{ name := "value", type := (.array .byte), accessFlags := 18, slot := 0, constantValue := 0 }, { name := "coder", type := .byte, accessFlags := 18, slot := 1, constantValue := 0 }, { name := "hash", type := .int, accessFlags := 2, slot := 2, constantValue := 0 }, { name := "hashIsZero", type := .boolean, accessFlags := 2, slot := 3, constantValue := 0 }, { name := "serialVersionUID", type := .long, accessFlags := 26, slot := 0, constantValue := 0 }, { name := "COMPACT_STRINGS", type := .boolean, accessFlags := 24, slot := 1, constantValue := 0 }, { name := "serialPersistentFields", type := (.array (.object "java/io/ObjectStreamField")), accessFlags := 26, slot := 2, constantValue := 0 }, { name := "REPL", type := .char, accessFlags := 26, slot := 3, constantValue := 0 }, { name := "CASE_INSENSITIVE_ORDER", type := (.object "java/util/Comparator"), accessFlags := 25, slot := 4, constantValue := 0 }, { name := "LATIN1", type := .byte, accessFlags := 24, slot := 5, constantValue := 0 }, { name := "UTF16", type := .byte, accessFlags := 24, slot := 6, constantValue := 0 }]
  methods := #[k8m0, k8m1, k8m2, k8m3, k8m4, k8m5]
  instanceTypes := #[(.array .byte), .byte, .int, .boolean]
  staticTypes := #[.long, .boolean, (.array (.object "java/io/ObjectStreamField")), .char, (.object "java/util/Comparator"), .byte, .byte]
  resolved := Array.replicate 1451 none
  statics := some 0 }

def pool9 : Array CpInfo := pool [(4, .class_ 6), (1, u "java/lang/Object"), (0, u "<init>"), (0, u "()V"), (5, .class_ 16), (1, u "java/lang/StringLatin1"), (21, .methodref 39 40), (0, .class_ 41), (0, .nameAndType 42 43), (0, u "java/lang/Math"), (0, u "min"), (0, u "(II)I"), (44, .methodref 14 89), (0, .nameAndType 90 91), (0, u "canEncode"), (0, u "(I)Z"), (0, .methodref 39 93), (0, .nameAndType 94 43), (0, u "max"), (0, .methodref 14 96), (0, .nameAndType 97 98), (0, u "indexOfChar"), (0, u "([BIII)I"), (2, u "indexOf"), (19, u "$assertionsDisabled"), (0, u "Z"), (98, .class_ 223), (1, u "java/lang/StringLatin1$LinesSpliterator"), (166, .class_ 391), (0, u "java/lang/StringLatin1$CharsSpliterator")] 3

def k9m0 : Method := { name := "<init>", desc := "()V", sig := { parameters := [], returnType := none }, accessFlags := 0, code := none }
def k9c1 : Code := { maxStack := 2, maxLocals := 1, code := jdk_43_method_4_code, exceptionTable := #[], attributes := #[] }
def k9m1 : Method := { name := "canEncode", desc := "(I)Z", sig := { parameters := [.int], returnType := some .boolean }, accessFlags := 9, code := some k9c1 }
def k9c2 : Code := { maxStack := 4, maxLocals := 4, code := jdk_43_method_22_code, exceptionTable := #[], attributes := #[] }
def k9m2 : Method := { name := "indexOf", desc := "([BIII)I", sig := { parameters := [(.array .byte), .int, .int, .int], returnType := some .int }, accessFlags := 9, code := some k9c2 }
def k9c3 : Code := { maxStack := 2, maxLocals := 6, code := jdk_43_method_23_code, exceptionTable := #[], attributes := #[] }
def k9m3 : Method := { name := "indexOfChar", desc := "([BIII)I", sig := { parameters := [(.array .byte), .int, .int, .int], returnType := some .int }, accessFlags := 10, code := some k9c3 }
/-- java/lang/StringLatin1 -/
def k9 : Class := { plain "java/lang/StringLatin1" (some 0) with
  accessFlags := 48
  interfaces := #[]
  cf := some (fileOf pool9 14 #[.nestMembers #[390, 221]] #[{ accessFlags := 0, nameIndex := 7, descriptorIndex := 8, attributes := #[] }, { accessFlags := 9, nameIndex := 90, descriptorIndex := 91, attributes := #[] }, { accessFlags := 9, nameIndex := 101, descriptorIndex := 98, attributes := #[] }, { accessFlags := 10, nameIndex := 97, descriptorIndex := 98, attributes := #[] }] 48 4 #[] #[{ accessFlags := 4120, nameIndex := 121, descriptorIndex := 122, attributes := #[] }])
  fields := #[{ name := "$assertionsDisabled", type := .boolean, accessFlags := 4120, slot := 0, constantValue := 0 }]
  methods := #[k9m0, k9m1, k9m2, k9m3]
  instanceTypes := #[]
  staticTypes := #[.boolean]
  resolved := Array.replicate 395 none
  statics := none }

def pool10 : Array CpInfo := pool [(1, .class_ 2), (0, u "java/lang/Math"), (1, .class_ 6), (1, u "java/lang/Object"), (0, u "<init>"), (0, u "()V"), (89, .class_ 100), (1, u "java/lang/Math$RandomNumberGeneratorHolder"), (71, u "negativeZeroFloatBits"), (0, u "J"), (2, u "negativeZeroDoubleBits"), (21, u "max"), (2, u "min"), (43, u "$assertionsDisabled"), (0, u "Z"), (88, u "(II)I"), (2, u "twoToTheDoubleScaleDown"), (0, u "D"), (4, u "twoToTheDoubleScaleUp"), (9, u "E"), (3, u "PI"), (2, u "TAU"), (2, u "DEGREES_TO_RADIANS"), (0, u "RADIANS_TO_DEGREES")] 94

def k10m0 : Method := { name := "<init>", desc := "()V", sig := { parameters := [], returnType := none }, accessFlags := 2, code := none }
def k10c1 : Code := { maxStack := 2, maxLocals := 2, code := jdk_29_method_65_code, exceptionTable := #[], attributes := #[] }
def k10m1 : Method := { name := "max", desc := "(II)I", sig := { parameters := [.int, .int], returnType := some .int }, accessFlags := 9, code := some k10c1 }
def k10c2 : Code := { maxStack := 2, maxLocals := 2, code := jdk_29_method_69_code, exceptionTable := #[], attributes := #[] }
def k10m2 : Method := { name := "min", desc := "(II)I", sig := { parameters := [.int, .int], returnType := some .int }, accessFlags := 9, code := some k10c2 }
/-- java/lang/Math -/
def k10 : Class := { plain "java/lang/Math" (some 0) with
  accessFlags := 49
  interfaces := #[]
  cf := some (fileOf pool10 1 #[.nestMembers #[98]] #[{ accessFlags := 2, nameIndex := 7, descriptorIndex := 8, attributes := #[] }, { accessFlags := 9, nameIndex := 198, descriptorIndex := 335, attributes := #[] }, { accessFlags := 9, nameIndex := 201, descriptorIndex := 335, attributes := #[] }] 49 4 #[] #[{ accessFlags := 25, nameIndex := 354, descriptorIndex := 339, attributes := #[] }, { accessFlags := 25, nameIndex := 358, descriptorIndex := 339, attributes := #[] }, { accessFlags := 25, nameIndex := 361, descriptorIndex := 339, attributes := #[] }, { accessFlags := 26, nameIndex := 364, descriptorIndex := 339, attributes := #[] }, { accessFlags := 26, nameIndex := 365, descriptorIndex := 339, attributes := #[] }, { accessFlags := 26, nameIndex := 172, descriptorIndex := 173, attributes := #[] }, { accessFlags := 26, nameIndex := 176, descriptorIndex := 173, attributes := #[] }, { accessFlags := 8, nameIndex := 344, descriptorIndex := 339, attributes := #[] }, { accessFlags := 8, nameIndex := 338, descriptorIndex := 339, attributes := #[] }, { accessFlags := 4120, nameIndex := 245, descriptorIndex := 246, attributes := #[] }])
  fields := #[{ name := "E", type := .double, accessFlags := 25, slot := 0, constantValue := 0 }, { name := "PI", type := .double, accessFlags := 25, slot := 1, constantValue := 0 }, { name := "TAU", type := .double, accessFlags := 25, slot := 2, constantValue := 0 }, { name := "DEGREES_TO_RADIANS", type := .double, accessFlags := 26, slot := 3, constantValue := 0 }, { name := "RADIANS_TO_DEGREES", type := .double, accessFlags := 26, slot := 4, constantValue := 0 }, { name := "negativeZeroFloatBits", type := .long, accessFlags := 26, slot := 5, constantValue := 0 }, { name := "negativeZeroDoubleBits", type := .long, accessFlags := 26, slot := 6, constantValue := 0 }, { name := "twoToTheDoubleScaleUp", type := .double, accessFlags := 8, slot := 7, constantValue := 0 }, { name := "twoToTheDoubleScaleDown", type := .double, accessFlags := 8, slot := 8, constantValue := 0 }, { name := "$assertionsDisabled", type := .boolean, accessFlags := 4120, slot := 9, constantValue := 0 }]
  methods := #[k10m0, k10m1, k10m2]
  instanceTypes := #[]
  staticTypes := #[.double, .double, .double, .double, .double, .long, .long, .double, .double, .boolean]
  resolved := Array.replicate 460 none
  statics := none }

def pool11 : Array CpInfo := pool [(2, .class_ 4), (1, u "java/lang/Object"), (0, u "<init>"), (0, u "()V"), (17, .class_ 26), (1, u "jdk/internal/util/Preconditions"), (28, .class_ 56), (0, u "jdk/internal/util/Preconditions$4"), (57, .class_ 115), (0, u "jdk/internal/util/Preconditions$1"), (7, u "SIOOBE_FORMATTER"), (0, u "Ljava/util/function/BiFunction;"), (0, .class_ 126), (0, u "jdk/internal/util/Preconditions$2"), (3, u "AIOOBE_FORMATTER"), (0, .class_ 132), (0, u "jdk/internal/util/Preconditions$3"), (3, u "IOOBE_FORMATTER")] 57

def k11m0 : Method := { name := "<init>", desc := "()V", sig := { parameters := [], returnType := none }, accessFlags := 1, code := none }
/-- jdk/internal/util/Preconditions -/
def k11 : Class := { plain "jdk/internal/util/Preconditions" (some 0) with
  accessFlags := 33
  interfaces := #[]
  cf := some (fileOf pool11 24 #[.nestMembers #[55, 131, 125, 114]] #[{ accessFlags := 1, nameIndex := 5, descriptorIndex := 6, attributes := #[] }] 33 2 #[] #[{ accessFlags := 25, nameIndex := 123, descriptorIndex := 124, attributes := #[] }, { accessFlags := 25, nameIndex := 130, descriptorIndex := 124, attributes := #[] }, { accessFlags := 25, nameIndex := 136, descriptorIndex := 124, attributes := #[] }])
  fields := #[{ name := "SIOOBE_FORMATTER", type := (.object "java/util/function/BiFunction"), accessFlags := 25, slot := 0, constantValue := 0 }, { name := "AIOOBE_FORMATTER", type := (.object "java/util/function/BiFunction"), accessFlags := 25, slot := 1, constantValue := 0 }, { name := "IOOBE_FORMATTER", type := (.object "java/util/function/BiFunction"), accessFlags := 25, slot := 2, constantValue := 0 }]
  methods := #[k11m0]
  instanceTypes := #[]
  staticTypes := #[(.object "java/util/function/BiFunction"), (.object "java/util/function/BiFunction"), (.object "java/util/function/BiFunction")]
  resolved := Array.replicate 194 none
  statics := some 1 }

def pool12 : Array CpInfo := pool [(9, u "<init>"), (6, .class_ 18), (1, u "java/lang/Object"), (0, u "()V"), (1, .class_ 23), (1, u "jdk/internal/util/ArraysSupport"), (0, u "LOG2_ARRAY_LONG_INDEX_SCALE"), (0, u "I"), (2, u "U"), (0, u "Ljdk/internal/misc/Unsafe;"), (8, u "BIG_ENDIAN"), (0, u "Z"), (8, u "LOG2_BYTE_BIT_SIZE"), (4, u "LOG2_ARRAY_INT_INDEX_SCALE"), (54, u "JLA"), (0, u "Ljdk/internal/access/JavaLangAccess;"), (11, u "LOG2_ARRAY_BOOLEAN_INDEX_SCALE"), (9, u "LOG2_ARRAY_BYTE_INDEX_SCALE"), (5, u "LOG2_ARRAY_CHAR_INDEX_SCALE"), (5, u "LOG2_ARRAY_SHORT_INDEX_SCALE"), (18, u "LOG2_ARRAY_FLOAT_INDEX_SCALE"), (24, u "LOG2_ARRAY_DOUBLE_INDEX_SCALE"), (89, u "T_BOOLEAN"), (2, u "T_CHAR"), (1, u "T_FLOAT"), (1, u "T_DOUBLE"), (1, u "T_BYTE"), (1, u "T_SHORT"), (1, u "T_INT"), (1, u "T_LONG"), (1, u "SOFT_MAX_ARRAY_LENGTH")] 83

def k12m0 : Method := { name := "<init>", desc := "()V", sig := { parameters := [], returnType := none }, accessFlags := 2, code := none }
/-- jdk/internal/util/ArraysSupport -/
def k12 : Class := { plain "jdk/internal/util/ArraysSupport" (some 0) with
  accessFlags := 33
  interfaces := #[]
  cf := some (fileOf pool12 21 #[] #[{ accessFlags := 2, nameIndex := 9, descriptorIndex := 19, attributes := #[] }] 33 16 #[] #[{ accessFlags := 24, nameIndex := 28, descriptorIndex := 29, attributes := #[] }, { accessFlags := 26, nameIndex := 38, descriptorIndex := 39, attributes := #[] }, { accessFlags := 25, nameIndex := 121, descriptorIndex := 25, attributes := #[] }, { accessFlags := 25, nameIndex := 131, descriptorIndex := 25, attributes := #[] }, { accessFlags := 25, nameIndex := 137, descriptorIndex := 25, attributes := #[] }, { accessFlags := 25, nameIndex := 143, descriptorIndex := 25, attributes := #[] }, { accessFlags := 25, nameIndex := 53, descriptorIndex := 25, attributes := #[] }, { accessFlags := 25, nameIndex := 24, descriptorIndex := 25, attributes := #[] }, { accessFlags := 25, nameIndex := 162, descriptorIndex := 25, attributes := #[] }, { accessFlags := 25, nameIndex := 187, descriptorIndex := 25, attributes := #[] }, { accessFlags := 26, nameIndex := 48, descriptorIndex := 25, attributes := #[] }, { accessFlags := 25, nameIndex := 277, descriptorIndex := 25, attributes := #[] }, { accessFlags := 25, nameIndex := 280, descriptorIndex := 25, attributes := #[] }, { accessFlags := 25, nameIndex := 282, descriptorIndex := 25, attributes := #[] }, { accessFlags := 25, nameIndex := 284, descriptorIndex := 25, attributes := #[] }, { accessFlags := 25, nameIndex := 286, descriptorIndex := 25, attributes := #[] }, { accessFlags := 25, nameIndex := 288, descriptorIndex := 25, attributes := #[] }, { accessFlags := 25, nameIndex := 290, descriptorIndex := 25, attributes := #[] }, { accessFlags := 25, nameIndex := 292, descriptorIndex := 25, attributes := #[] }, { accessFlags := 26, nameIndex := 108, descriptorIndex := 109, attributes := #[] }, { accessFlags := 25, nameIndex := 294, descriptorIndex := 25, attributes := #[] }])
  fields := #[{ name := "U", type := (.object "jdk/internal/misc/Unsafe"), accessFlags := 24, slot := 0, constantValue := 0 }, { name := "BIG_ENDIAN", type := .boolean, accessFlags := 26, slot := 1, constantValue := 0 }, { name := "LOG2_ARRAY_BOOLEAN_INDEX_SCALE", type := .int, accessFlags := 25, slot := 2, constantValue := 0 }, { name := "LOG2_ARRAY_BYTE_INDEX_SCALE", type := .int, accessFlags := 25, slot := 3, constantValue := 0 }, { name := "LOG2_ARRAY_CHAR_INDEX_SCALE", type := .int, accessFlags := 25, slot := 4, constantValue := 0 }, { name := "LOG2_ARRAY_SHORT_INDEX_SCALE", type := .int, accessFlags := 25, slot := 5, constantValue := 0 }, { name := "LOG2_ARRAY_INT_INDEX_SCALE", type := .int, accessFlags := 25, slot := 6, constantValue := 0 }, { name := "LOG2_ARRAY_LONG_INDEX_SCALE", type := .int, accessFlags := 25, slot := 7, constantValue := 0 }, { name := "LOG2_ARRAY_FLOAT_INDEX_SCALE", type := .int, accessFlags := 25, slot := 8, constantValue := 0 }, { name := "LOG2_ARRAY_DOUBLE_INDEX_SCALE", type := .int, accessFlags := 25, slot := 9, constantValue := 0 }, { name := "LOG2_BYTE_BIT_SIZE", type := .int, accessFlags := 26, slot := 10, constantValue := 0 }, { name := "T_BOOLEAN", type := .int, accessFlags := 25, slot := 11, constantValue := 0 }, { name := "T_CHAR", type := .int, accessFlags := 25, slot := 12, constantValue := 0 }, { name := "T_FLOAT", type := .int, accessFlags := 25, slot := 13, constantValue := 0 }, { name := "T_DOUBLE", type := .int, accessFlags := 25, slot := 14, constantValue := 0 }, { name := "T_BYTE", type := .int, accessFlags := 25, slot := 15, constantValue := 0 }, { name := "T_SHORT", type := .int, accessFlags := 25, slot := 16, constantValue := 0 }, { name := "T_INT", type := .int, accessFlags := 25, slot := 17, constantValue := 0 }, { name := "T_LONG", type := .int, accessFlags := 25, slot := 18, constantValue := 0 }, { name := "JLA", type := (.object "jdk/internal/access/JavaLangAccess"), accessFlags := 26, slot := 19, constantValue := 0 }, { name := "SOFT_MAX_ARRAY_LENGTH", type := .int, accessFlags := 25, slot := 20, constantValue := 0 }]
  methods := #[k12m0]
  instanceTypes := #[]
  staticTypes := #[(.object "jdk/internal/misc/Unsafe"), .boolean, .int, .int, .int, .int, .int, .int, .int, .int, .int, .int, .int, .int, .int, .int, .int, .int, .int, (.object "jdk/internal/access/JavaLangAccess"), .int]
  resolved := Array.replicate 378 none
  statics := none }

def pool13 : Array CpInfo := pool [(1, u "java/lang/Cloneable"), (0, .class_ 1), (0, u "java/lang/Object"), (0, .class_ 3)] 3

/-- java/lang/Cloneable -/
def k13 : Class := { plain "java/lang/Cloneable" (some 0) with
  accessFlags := 1537
  interfaces := #[]
  cf := some (fileOf pool13 2 #[] #[] 1537 4 #[] #[])
  fields := #[]
  methods := #[]
  instanceTypes := #[]
  staticTypes := #[]
  resolved := Array.replicate 8 none
  statics := none }

/-- the primitive byte -/
def k14 : Class := { plain "byte" none with kind := .primitive 'B', accessFlags := 0x411 }
/-- [B -/
def k15 : Class := { plain "[B" (some 0) with kind := .array 14 .byte, interfaces := #[13, 3], accessFlags := 1041 }

/-- the primitive int -/
def k16 : Class := { plain "int" none with kind := .primitive 'I', accessFlags := 0x411 }
/-- [I -/
def k17 : Class := { plain "[I" (some 0) with kind := .array 16 .int, interfaces := #[13, 3], accessFlags := 1041 }

def heap : Heap := #[{ cls := 8, slots := #[.long 0, .int 1, .null, .int 0, .null, .int 0, .int 0], vm := .statics 8 },
  { cls := 11, slots := #[.null, .null, .null], vm := .statics 11 }]
def classes : Array Class := #[k0, k1, k2, k3, k4, k5, k6, k7, k8, k9, k10, k11, k12, k13, k14, k15, k16, k17]
def interned : List (Array UInt16 × Addr) := []
def slotsUsed : Nat := 10
def theMethod : MethodId := ⟨1, 3⟩
def args0 : Array Value := #[.int 5, .int 70]
def aboutOver (below : List Frame) : State where
  vm := { classes := classes, interned := interned.toArray }
  heap := heap
  slotsUsed := slotsUsed
  threads := #[{ frames := .invoking theMethod args0 :: below }]
def below0 : List Frame := [.native { method := ⟨0, 0⟩, args := #[] }]
def about1 : State := aboutOver below0
def p0 : Program := .bare "" "" ""
def e0 : Env := launch0.env 0 0 0
theorem w_frames : about1.frames = Frame.invoking theMethod args0 :: below0 := rfl
set_option maxRecDepth 65536 in
theorem w_args : argsFit about1.vm theMethod args0 = true := by decide +kernel
set_option maxRecDepth 65536 in
theorem w_heap : heapFits about1 = true := by decide +kernel
set_option maxRecDepth 65536 in
theorem w_runnable : about1.curStatus? = some .runnable := by decide +kernel
set_option maxRecDepth 65536 in
theorem w_alone : about1.alone = true := by decide +kernel
set_option maxRecDepth 65536 in
theorem w_named : about1.methodNamed? x = some theMethod := by decide +kernel
set_option maxRecDepth 65536 in
theorem w_hears : about1.hears theMethod below0 = true := by decide +kernel
set_option maxRecDepth 65536 in
theorem w_ripe : about1.ripe theMethod args0 below0 = true := by decide +kernel
theorem w_running : about1.status = .running := rfl
set_option maxRecDepth 65536 in
theorem w_room : about1.hasRoom e0.platform room_1 = true :=
  launch0.hasRoom_least _ room_1 (by decide +kernel) (by decide +kernel) (by decide +kernel) (by decide +kernel) (by decide +kernel) (by decide +kernel)
theorem allAtoms_all (ts : List Jvm.Cond) (a : Array Jvm.Value) (st : Jvm.State) : (allAtoms ts).before a st = ts.all (fun c => c.before a st) := by
  induction ts with
  | nil => rfl
  | cons c t ih =>
    show (Jvm.Cond.and c (allAtoms t)).before a st = _
    rw [Jvm.Cond.before_and, ih, List.all_cons]
def words1 : List Jvm.Cond := Jvm.Cond.code x code maxLocals ret :: tables_1
/-- a 'code' word, met by the world's own term for the bytes: nothing is compared byte by byte -/
theorem code_word {y : MethodName} {bytes : ByteArray} {mx : Nat} {rt : Option FieldType} {a : Array Value} {s : State} {m : MethodId} {meth : Method} {c : Code} (h1 : s.methodNamed? y = some m) (h2 : s.vm.method? m = some meth) (h3 : meth.code = some c) (h4 : c.code = bytes)
    (h5 : (c.maxLocals == mx && c.exceptionTable.isEmpty && decide (c.maxStack ≤ mostOperands) && decide (meth.sig.returnType = rt) && !meth.locks && decide (parseMethodDescriptor y.desc = some meth.sig)) = true) : (Jvm.Cond.code y bytes mx rt).before a s = true := by
  simp only [Bool.and_eq_true, beq_iff_eq, Bool.not_eq_true', decide_eq_true_eq] at h5
  obtain ⟨⟨⟨⟨⟨g1, g2⟩, g3⟩, g4⟩, g5⟩, g6⟩ := h5
  simp [Cond.before, Cond.holds, Cond.value, h1, h2, h3, h4, g1, g2, g3, g4, g5, g6]
def isCode : Jvm.Cond → Bool
  | .code _ _ _ _ => true
  | _ => false
theorem all_split {L : List Jvm.Cond} {P : Jvm.Cond → Bool} (h1 : L.all (fun c => isCode c || P c) = true) (h2 : ∀ c ∈ L.filter isCode, P c = true) : L.all P = true := by
  refine List.all_eq_true.mpr fun c hc => ?_
  have h := List.all_eq_true.mp h1 c hc
  rcases Bool.eq_false_or_eq_true (isCode c) with hi | hi
  · exact h2 c (List.mem_filter.mpr ⟨hc, hi⟩)
  · simpa [hi] using h
set_option maxRecDepth 65536 in
theorem w_c0 : (Jvm.Cond.code x code maxLocals ret).before args0 about1 = true := code_word (m := ⟨1, 3⟩) (meth := k1m3) (c := k1c3) (by decide +kernel) rfl rfl rfl (by decide +kernel)
set_option maxRecDepth 65536 in
theorem w_c1 : (Jvm.Cond.code ({ cls := "com/example/hermod/hermod/PercentEncoding", name := "isUnreserved", desc := "(I)Z" } : Jvm.MethodName) prog_11_method_2_code (1 : Nat) (Option.some Jvm.ClassFile.FieldType.boolean)).before args0 about1 = true := code_word (m := ⟨2, 1⟩) (meth := k2m1) (c := k2c1) (by decide +kernel) rfl rfl rfl (by decide +kernel)
set_option maxRecDepth 65536 in
theorem w_c2 : (Jvm.Cond.code ({ cls := "java/lang/String", name := "indexOf", desc := "(I)I" } : Jvm.MethodName) jdk_42_method_79_code (2 : Nat) (Option.some Jvm.ClassFile.FieldType.int)).before args0 about1 = true := code_word (m := ⟨8, 2⟩) (meth := k8m2) (c := k8c2) (by decide +kernel) rfl rfl rfl (by decide +kernel)
set_option maxRecDepth 65536 in
theorem w_c3 : (Jvm.Cond.code ({ cls := "java/lang/String", name := "indexOf", desc := "(II)I" } : Jvm.MethodName) jdk_42_method_80_code (3 : Nat) (Option.some Jvm.ClassFile.FieldType.int)).before args0 about1 = true := code_word (m := ⟨8, 3⟩) (meth := k8m3) (c := k8c3) (by decide +kernel) rfl rfl rfl (by decide +kernel)
set_option maxRecDepth 65536 in
theorem w_c4 : (Jvm.Cond.code ({ cls := "java/lang/String", name := "isLatin1", desc := "()Z" } : Jvm.MethodName) jdk_42_method_154_code (1 : Nat) (Option.some Jvm.ClassFile.FieldType.boolean)).before args0 about1 = true := code_word (m := ⟨8, 5⟩) (meth := k8m5) (c := k8c5) (by decide +kernel) rfl rfl rfl (by decide +kernel)
set_option maxRecDepth 65536 in
theorem w_c5 : (Jvm.Cond.code ({ cls := "java/lang/String", name := "length", desc := "()I" } : Jvm.MethodName) jdk_42_method_54_code (1 : Nat) (Option.some Jvm.ClassFile.FieldType.int)).before args0 about1 = true := code_word (m := ⟨8, 1⟩) (meth := k8m1) (c := k8c1) (by decide +kernel) rfl rfl rfl (by decide +kernel)
set_option maxRecDepth 65536 in
theorem w_c6 : (Jvm.Cond.code ({ cls := "java/lang/String", name := "coder", desc := "()B" } : Jvm.MethodName) jdk_42_method_152_code (1 : Nat) (Option.some Jvm.ClassFile.FieldType.byte)).before args0 about1 = true := code_word (m := ⟨8, 4⟩) (meth := k8m4) (c := k8c4) (by decide +kernel) rfl rfl rfl (by decide +kernel)
set_option maxRecDepth 65536 in
theorem w_c7 : (Jvm.Cond.code ({ cls := "java/lang/StringLatin1", name := "indexOf", desc := "([BIII)I" } : Jvm.MethodName) jdk_43_method_22_code (4 : Nat) (Option.some Jvm.ClassFile.FieldType.int)).before args0 about1 = true := code_word (m := ⟨9, 2⟩) (meth := k9m2) (c := k9c2) (by decide +kernel) rfl rfl rfl (by decide +kernel)
set_option maxRecDepth 65536 in
theorem w_c8 : (Jvm.Cond.code ({ cls := "java/lang/StringLatin1", name := "canEncode", desc := "(I)Z" } : Jvm.MethodName) jdk_43_method_4_code (1 : Nat) (Option.some Jvm.ClassFile.FieldType.boolean)).before args0 about1 = true := code_word (m := ⟨9, 1⟩) (meth := k9m1) (c := k9c1) (by decide +kernel) rfl rfl rfl (by decide +kernel)
set_option maxRecDepth 65536 in
theorem w_c9 : (Jvm.Cond.code ({ cls := "com/example/hermod/hermod/PercentEncodingIsUnreservedPinLaw", name := "expected", desc := "(I)Z" } : Jvm.MethodName) method_3_code (1 : Nat) (Option.some Jvm.ClassFile.FieldType.boolean)).before args0 about1 = true := code_word (m := ⟨1, 2⟩) (meth := k1m2) (c := k1c2) (by decide +kernel) rfl rfl rfl (by decide +kernel)
set_option maxRecDepth 65536 in
theorem w_c10 : (Jvm.Cond.code ({ cls := "com/example/hermod/hermod/PercentEncodingIsUnreservedPinLaw", name := "inRange", desc := "(III)Z" } : Jvm.MethodName) method_2_code (3 : Nat) (Option.some Jvm.ClassFile.FieldType.boolean)).before args0 about1 = true := code_word (m := ⟨1, 1⟩) (meth := k1m1) (c := k1c1) (by decide +kernel) rfl rfl rfl (by decide +kernel)
set_option maxRecDepth 65536 in
theorem w_c11 : (Jvm.Cond.code ({ cls := "java/lang/Math", name := "max", desc := "(II)I" } : Jvm.MethodName) jdk_29_method_65_code (2 : Nat) (Option.some Jvm.ClassFile.FieldType.int)).before args0 about1 = true := code_word (m := ⟨10, 1⟩) (meth := k10m1) (c := k10c1) (by decide +kernel) rfl rfl rfl (by decide +kernel)
set_option maxRecDepth 65536 in
theorem w_c12 : (Jvm.Cond.code ({ cls := "java/lang/Math", name := "min", desc := "(II)I" } : Jvm.MethodName) jdk_29_method_69_code (2 : Nat) (Option.some Jvm.ClassFile.FieldType.int)).before args0 about1 = true := code_word (m := ⟨10, 2⟩) (meth := k10m2) (c := k10c2) (by decide +kernel) rfl rfl rfl (by decide +kernel)
set_option maxRecDepth 65536 in
theorem w_c13 : (Jvm.Cond.code ({ cls := "java/lang/StringLatin1", name := "indexOfChar", desc := "([BIII)I" } : Jvm.MethodName) jdk_43_method_23_code (6 : Nat) (Option.some Jvm.ClassFile.FieldType.int)).before args0 about1 = true := code_word (m := ⟨9, 3⟩) (meth := k9m3) (c := k9c3) (by decide +kernel) rfl rfl rfl (by decide +kernel)
def codes1 : List Jvm.Cond := [Jvm.Cond.code x code maxLocals ret, Jvm.Cond.code ({ cls := "com/example/hermod/hermod/PercentEncoding", name := "isUnreserved", desc := "(I)Z" } : Jvm.MethodName) prog_11_method_2_code (1 : Nat) (Option.some Jvm.ClassFile.FieldType.boolean), Jvm.Cond.code ({ cls := "java/lang/String", name := "indexOf", desc := "(I)I" } : Jvm.MethodName) jdk_42_method_79_code (2 : Nat) (Option.some Jvm.ClassFile.FieldType.int), Jvm.Cond.code ({ cls := "java/lang/String", name := "indexOf", desc := "(II)I" } : Jvm.MethodName) jdk_42_method_80_code (3 : Nat) (Option.some Jvm.ClassFile.FieldType.int), Jvm.Cond.code ({ cls := "java/lang/String", name := "isLatin1", desc := "()Z" } : Jvm.MethodName) jdk_42_method_154_code (1 : Nat) (Option.some Jvm.ClassFile.FieldType.boolean), Jvm.Cond.code ({ cls := "java/lang/String", name := "length", desc := "()I" } : Jvm.MethodName) jdk_42_method_54_code (1 : Nat) (Option.some Jvm.ClassFile.FieldType.int), Jvm.Cond.code ({ cls := "java/lang/String", name := "coder", desc := "()B" } : Jvm.MethodName) jdk_42_method_152_code (1 : Nat) (Option.some Jvm.ClassFile.FieldType.byte), Jvm.Cond.code ({ cls := "java/lang/StringLatin1", name := "indexOf", desc := "([BIII)I" } : Jvm.MethodName) jdk_43_method_22_code (4 : Nat) (Option.some Jvm.ClassFile.FieldType.int), Jvm.Cond.code ({ cls := "java/lang/StringLatin1", name := "canEncode", desc := "(I)Z" } : Jvm.MethodName) jdk_43_method_4_code (1 : Nat) (Option.some Jvm.ClassFile.FieldType.boolean), Jvm.Cond.code ({ cls := "com/example/hermod/hermod/PercentEncodingIsUnreservedPinLaw", name := "expected", desc := "(I)Z" } : Jvm.MethodName) method_3_code (1 : Nat) (Option.some Jvm.ClassFile.FieldType.boolean), Jvm.Cond.code ({ cls := "com/example/hermod/hermod/PercentEncodingIsUnreservedPinLaw", name := "inRange", desc := "(III)Z" } : Jvm.MethodName) method_2_code (3 : Nat) (Option.some Jvm.ClassFile.FieldType.boolean), Jvm.Cond.code ({ cls := "java/lang/Math", name := "max", desc := "(II)I" } : Jvm.MethodName) jdk_29_method_65_code (2 : Nat) (Option.some Jvm.ClassFile.FieldType.int), Jvm.Cond.code ({ cls := "java/lang/Math", name := "min", desc := "(II)I" } : Jvm.MethodName) jdk_29_method_69_code (2 : Nat) (Option.some Jvm.ClassFile.FieldType.int), Jvm.Cond.code ({ cls := "java/lang/StringLatin1", name := "indexOfChar", desc := "([BIII)I" } : Jvm.MethodName) jdk_43_method_23_code (6 : Nat) (Option.some Jvm.ClassFile.FieldType.int)]
set_option maxRecDepth 65536 in
theorem codes_eq : words1.filter isCode = codes1 := rfl
theorem w_codes : ∀ c ∈ words1.filter isCode, c.before args0 about1 = true := by
  rw [codes_eq]
  intro c hc
  simp only [codes1, List.mem_cons, List.not_mem_nil, or_false] at hc
  rcases hc with rfl | rfl | rfl | rfl | rfl | rfl | rfl | rfl | rfl | rfl | rfl | rfl | rfl | rfl
  · exact w_c0
  · exact w_c1
  · exact w_c2
  · exact w_c3
  · exact w_c4
  · exact w_c5
  · exact w_c6
  · exact w_c7
  · exact w_c8
  · exact w_c9
  · exact w_c10
  · exact w_c11
  · exact w_c12
  · exact w_c13
set_option maxRecDepth 65536 in
theorem w_t1 : (words1.take 24).all (fun c => isCode c || c.before args0 about1) = true := by decide +kernel
set_option maxRecDepth 65536 in
theorem w_t2 : ((words1.drop 24).take 24).all (fun c => isCode c || c.before args0 about1) = true := by decide +kernel
set_option maxRecDepth 65536 in
theorem w_t3 : ((words1.drop 24).drop 24).all (fun c => isCode c || c.before args0 about1) = true := by decide +kernel
theorem w_tables : (allAtoms (Jvm.Cond.code x code maxLocals ret :: tables_1)).before args0 about1 = true := by
  rw [allAtoms_all]
  show words1.all (fun c => c.before args0 about1) = true
  refine all_split ?_ w_codes
  rw [← List.take_append_drop 24 words1, List.all_append, w_t1, ← List.take_append_drop 24 (words1.drop 24), List.all_append, w_t2, w_t3]
  rfl
set_option maxRecDepth 65536 in
theorem w_rest : rest_1_c.before args0 about1 = true := by decide +kernel
set_option maxRecDepth 65536 in
theorem w_case : (Jvm.Cond.and given_1 narrow_1).before args0 about1 = true := by decide +kernel
set_option maxRecDepth 65536 in
theorem w_consts : constsHeld consts_1 about1 := Jvm.Lit.constsHeldB_iff.mp (by decide +kernel)
theorem w_applies : (headSpec (Jvm.Cond.code x code maxLocals ret :: tables_1) room_1).applies x e0.platform about1 = true :=
  (Spec.applies_iff w_frames).mpr ⟨w_running, w_runnable, w_alone, w_named, w_hears, w_ripe, w_room, w_tables⟩
theorem atStart : AtStart classFile x code maxLocals ret World_1 tables_1 room_1 Calls_1 rest_1 Pre_1 launch0 p0 e0 about1 theMethod args0 below0 :=
  ⟨lists_1, trivial, launch0.admits_env _ _ _, launch0.least_env, fairChoices_fair.cas, fairChoices_fair.clock, w_frames, w_args, w_heap, w_applies, ⟨w_consts, trivial⟩, w_rest, w_case⟩
end start1
theorem witness_1 : WitnessClaimed_1 := ⟨start1.p0, start1.e0, start1.about1, start1.theMethod, start1.args0, start1.below0, start1.atStart⟩
end Jvm.Pilot.@@N@@
