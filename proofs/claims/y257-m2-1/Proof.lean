import JvmDerived
import JvmDerived.Pilot.@@N@@Statement
import JvmDerived.Pilot.@@N@@Code
set_option linter.unusedVariables false
set_option linter.unusedSimpArgs false
namespace Jvm.Pilot.@@N@@
open Jvm Jvm.ClassFile Sem Op Lib Jvm.Free Jvm.Stand Jvm.LawKit Jvm.RoadKit Bundle Jvm.Pilot.@@N@@.Jvm.D
/-! OWN KIT: a walk as a goal that goes forward (OGets), and a list of the fresh objects with what they hold (OView) -/
section OwnKit
variable {p : Program} {l : Launch} {e : Env} {R : Room} {s : State} {m : MethodId} {args : Array Value} {below : List Frame} {meth : Method} {c : Code} {T : State} {locs : List Loc} {cells slots : Nat} {Z : State} {a0 : Array Value} {h h' : Heap} {n0 : Nat}
/-- from U the run comes to an end that P allows -/
def OGets (p : Program) (e : Env) (below : List Frame) (P : State → Outcome → Prop) (U : State) : Prop := ∃ s₂ o, Steps p.tables e below U s₂ ∧ s₂.status = .running ∧ Ended s₂ below o ∧ P s₂ o
def OLeaves (s : State) (Q : Option Value → Heap → List Loc → Prop) (k n : Nat) (t : State) (o : Outcome) : Prop := ∃ v L, o = .returned v ∧ Q v t.heap L ∧ FrameEnd s o t L k n
theorem OGets.step {P : State → Outcome → Prop} {U U' : State} (k : ∀ t, Steps p.tables e below U' t → Steps p.tables e below U t) (g : OGets p e below P U') : OGets p e below P U := by
  obtain ⟨t, o, h1, h2⟩ := g
  exact ⟨t, o, k t h1, h2⟩
theorem OGets.after {P : State → Outcome → Prop} {U U' : State} (k : Steps p.tables e below U U') (g : OGets p e below P U') : OGets p e below P U := by
  obtain ⟨t, o, h1, h2⟩ := g
  exact ⟨t, o, k.trans h1, h2⟩
theorem OGets.enter {P : State → Outcome → Prop} {g g' : JFrame} (q : g = g') (k : OGets p e below P (T.setTop g')) : OGets p e below P (T.setTop g) := q ▸ k
theorem OGets.cut {P : State → Outcome → Prop} {U U' : State} (k : OGets p e below P U') (f : OGets p e below P U' → OGets p e below P U) : OGets p e below P U := f k
theorem OGets.retN (X : Stand p l e R s m args below meth c T locs cells slots) (hx : p.tables.exec = Jvm.exec) (hk : meth.locks = false) {t : FieldType} (hret : meth.sig.returnType = some t) (ht : t = .boolean ∨ t = .byte ∨ t = .char ∨ t = .short) {pc : Nat} {Ls : Array Slot} {z : Int32} {rest : List Value}
    (hd : decode c.code pc = .ok (.ireturn, 1)) {Q : Option Value → Heap → List Loc → Prop} {k n : Nat} (hc : cells ≤ k) (hs : slots ≤ n) (hQ : Q (some (.int (nar t z))) T.heap locs) : OGets p e below (OLeaves s Q k n) (T.setTop (mkF m pc Ls (.int z :: rest))) := by
  obtain ⟨fs, hr, hrun, hended, hW, hsame⟩ := X.leave (v := some (.int (nar t z))) (fun h => by rw [hret] at h; cases h) hk
  exact ⟨_, _, Jvm.RoadKit.retN X hx hret ht hd hr, hrun, hended, _, _, rfl, hQ, ⟨_, rfl⟩, hW, hsame.mono hc hs⟩
theorem OGets.retI (X : Stand p l e R s m args below meth c T locs cells slots) (hx : p.tables.exec = Jvm.exec) (hk : meth.locks = false) (hret : meth.sig.returnType = some .int) {pc : Nat} {Ls : Array Slot} {z : Int32} {rest : List Value}
    (hd : decode c.code pc = .ok (.ireturn, 1)) {Q : Option Value → Heap → List Loc → Prop} {k n : Nat} (hc : cells ≤ k) (hs : slots ≤ n) (hQ : Q (some (.int z)) T.heap locs) : OGets p e below (OLeaves s Q k n) (T.setTop (mkF m pc Ls (.int z :: rest))) := by
  obtain ⟨fs, hr, hrun, hended, hW, hsame⟩ := X.leave (v := some (.int z)) (fun h => by rw [hret] at h; cases h) hk
  exact ⟨_, _, Jvm.RoadKit.retOut X hx hret rfl (Or.inl ⟨rfl, Or.inl rfl, _, rfl⟩) hd hr, hrun, hended, _, _, rfl, hQ, ⟨_, rfl⟩, hW, hsame.mono hc hs⟩
theorem OGets.retJ (X : Stand p l e R s m args below meth c T locs cells slots) (hx : p.tables.exec = Jvm.exec) (hk : meth.locks = false) (hret : meth.sig.returnType = some .long) {pc : Nat} {Ls : Array Slot} {z : Int64} {rest : List Value}
    (hd : decode c.code pc = .ok (.lreturn, 1)) {Q : Option Value → Heap → List Loc → Prop} {k n : Nat} (hc : cells ≤ k) (hs : slots ≤ n) (hQ : Q (some (.long z)) T.heap locs) : OGets p e below (OLeaves s Q k n) (T.setTop (mkF m pc Ls (.long z :: rest))) := by
  obtain ⟨fs, hr, hrun, hended, hW, hsame⟩ := X.leave (v := some (.long z)) (fun h => by rw [hret] at h; cases h) hk
  exact ⟨_, _, Jvm.RoadKit.retOut X hx hret rfl (Or.inr (Or.inl ⟨rfl, rfl, _, rfl⟩)) hd hr, hrun, hended, _, _, rfl, hQ, ⟨_, rfl⟩, hW, hsame.mono hc hs⟩
theorem OGets.retA (X : Stand p l e R s m args below meth c T locs cells slots) (hx : p.tables.exec = Jvm.exec) (hk : meth.locks = false) {t : FieldType} (hret : meth.sig.returnType = some t) (ht : t.isReference = true) {pc : Nat} {Ls : Array Slot} {w : Value} {rest : List Value} (hw : w.isRef = true) (hn : narrow t w = w)
    (hd : decode c.code pc = .ok (.areturn, 1)) {Q : Option Value → Heap → List Loc → Prop} {k n : Nat} (hc : cells ≤ k) (hs : slots ≤ n) (hQ : Q (some w) T.heap locs) : OGets p e below (OLeaves s Q k n) (T.setTop (mkF m pc Ls (w :: rest))) := by
  obtain ⟨fs, hr, hrun, hended, hW, hsame⟩ := X.leave (v := some w) (fun h => by rw [hret] at h; cases h) hk
  exact ⟨_, _, Jvm.RoadKit.retOut X hx hret hn (Or.inr (Or.inr (Or.inr (Or.inr ⟨rfl, ht, hw⟩)))) hd hr, hrun, hended, _, _, rfl, hQ, ⟨_, rfl⟩, hW, hsame.mono hc hs⟩
theorem OGets.retV (X : Stand p l e R s m args below meth c T locs cells slots) (hx : p.tables.exec = Jvm.exec) (hk : meth.locks = false) (hret : meth.sig.returnType = none) {pc : Nat} {Ls : Array Slot}
    (hd : decode c.code pc = .ok (.return_, 1)) {Q : Option Value → Heap → List Loc → Prop} {k n : Nat} (hc : cells ≤ k) (hs : slots ≤ n) (hQ : Q none T.heap locs) : OGets p e below (OLeaves s Q k n) (T.setTop (mkF m pc Ls [])) := by
  obtain ⟨fs, hr, hrun, hended, hW, hsame⟩ := X.leave (v := none) (fun _ => rfl) hk
  exact ⟨_, _, X.returnOut hx hret hd hr, hrun, hended, _, _, rfl, hQ, ⟨_, rfl⟩, hW, hsame.mono hc hs⟩
/-- an object (class, fields, their values) or an array (what it is of, its components) -/
abbrev OObj : Type := Sum (String × List (String × String × String) × List Value) (FieldType × List Value)
def OHold (Z : State) (h : Heap) (a : Addr) (o : OObj) : Prop :=
  (∀ q, o = Sum.inl q → Exa Z h a q.1 ∧ q.2.1.Pairwise (fun x y => Jvm.RoadKit.slotOf Z x.1 x.2.1 x.2.2 ≠ Jvm.RoadKit.slotOf Z y.1 y.2.1 y.2.2) ∧ ∀ (j : Nat) (k : String × String × String) (v : Value), q.2.1[j]? = some k → q.2.2[j]? = some v → Fld Z h a k.1 k.2.1 k.2.2 v) ∧
  (∀ q, o = Sum.inr q → ∃ cl : Cell, Arr Z h a cl q.1 ∧ cl.slots.toList = q.2)
variable {a b : Addr} {o : OObj} {sl : Nat} {v : Value} {os : List (Addr × OObj)} {C : String} {ns : List (String × String × String)} {vs : List Value} {ty : FieldType}
theorem OHold.other (W : Wr h h' a sl v) (hne : b ≠ a) (H : OHold Z h b o) : OHold Z h' b o := by
  refine ⟨fun q hq => ?_, fun q hq => ?_⟩
  · obtain ⟨h1, h2, h3⟩ := H.1 q hq
    exact ⟨h1.wr W, h2, fun j k w e1 e2 => (h3 j k w e1 e2).other W (Or.inl hne)⟩
  · obtain ⟨cl, h1, h2⟩ := H.2 q hq
    exact ⟨cl, h1.other W hne, h2⟩
theorem OHold.ext (E : Ext h h') (H : OHold Z h b o) : OHold Z h' b o := by
  refine ⟨fun q hq => ?_, fun q hq => ?_⟩
  · obtain ⟨h1, h2, h3⟩ := H.1 q hq
    exact ⟨h1.ext E, h2, fun j k w e1 e2 => (h3 j k w e1 e2).ext E⟩
  · obtain ⟨cl, h1, h2⟩ := H.2 q hq
    exact ⟨cl, h1.ext E, h2⟩
theorem OHold.obj (h1 : Exa Z h a C) (h2 : ns.Pairwise (fun x y => Jvm.RoadKit.slotOf Z x.1 x.2.1 x.2.2 ≠ Jvm.RoadKit.slotOf Z y.1 y.2.1 y.2.2)) (h3 : ∀ (j : Nat) (k : String × String × String) (v : Value), ns[j]? = some k → vs[j]? = some v → Fld Z h a k.1 k.2.1 k.2.2 v) : OHold Z h a (Sum.inl (C, ns, vs)) :=
  ⟨fun q hq => (by cases hq; exact ⟨h1, h2, h3⟩), fun q hq => (by cases hq)⟩
theorem OHold.arr {cl : Cell} (h1 : Arr Z h a cl ty) (h2 : cl.slots.toList = vs) : OHold Z h a (Sum.inr (ty, vs)) :=
  ⟨fun q hq => (by cases hq), fun q hq => (by cases hq; exact ⟨cl, h1, h2⟩)⟩
theorem OHold.putF (H : OHold Z h a (Sum.inl (C, ns, vs))) {j : Nat} {k : String × String × String} (hj : ns[j]? = some k) (W : Wr h h' a (Jvm.RoadKit.slotOf Z k.1 k.2.1 k.2.2) v) : OHold Z h' a (Sum.inl (C, ns, vs.set j v)) := by
  obtain ⟨h1, h2, h3⟩ := H.1 _ rfl
  refine OHold.obj (h1.wr W) h2 fun i k' w e1 e2 => ?_
  by_cases q : j = i
  · subst q
    rw [hj] at e1; cases e1
    rw [List.getElem?_set] at e2
    split at e2
    · split at e2
      · rename_i hlt
        cases e2
        exact (h3 j k _ hj (List.getElem?_eq_getElem hlt)).same W
      · cases e2
    · exact absurd rfl ‹_›
  · rw [List.getElem?_set_ne q] at e2
    refine (h3 i k' w e1 e2).other W (Or.inr ?_)
    obtain ⟨hi, e1⟩ := List.getElem?_eq_some_iff.mp e1
    obtain ⟨hj', hj⟩ := List.getElem?_eq_some_iff.mp hj
    have P := List.pairwise_iff_getElem.mp h2
    subst e1 hj
    rcases Nat.lt_or_gt_of_ne q with q | q
    · exact (P j i hj' hi q).symm
    · exact P i j hi hj' q
theorem OHold.putA (H : OHold Z h a (Sum.inr (ty, vs))) {j : Nat} (W : Wr h h' a j v) : OHold Z h' a (Sum.inr (ty, vs.set j v)) := by
  obtain ⟨cl, h1, h2⟩ := H.2 _ rfl
  exact OHold.arr (h1.same W) (by show (cl.slots.setIfInBounds j v).toList = vs.set j v; rw [Array.toList_setIfInBounds]; exact congrArg (fun z => z.set j v) h2)
/-- the objects made since the law began, as a list: no two at one place, none old, each as said -/
def OView (Z : State) (n0 : Nat) (h : Heap) (os : List (Addr × OObj)) : Prop := (os.map (·.1)).Nodup ∧ ∀ q ∈ os, n0 ≤ q.1 ∧ q.1 < h.size ∧ OHold Z h q.1 q.2
theorem OView.nil (Z : State) (n0 : Nat) (h : Heap) : OView Z n0 h [] := ⟨List.nodup_nil, fun q hq => by cases hq⟩
theorem OView.perm {os' : List (Addr × OObj)} (V : OView Z n0 h os) (P : os.Perm os') : OView Z n0 h os' := ⟨(P.map _).nodup_iff.mp V.1, fun q hq => V.2 q (P.mem_iff.mpr hq)⟩
theorem own_bring {α : Type} : ∀ (os : List α) (i : Nat) (q : α), os[i]? = some q → os.Perm (q :: os.eraseIdx i)
  | [], i, q, hq => by cases hq
  | x :: t, 0, q, hq => by cases hq; exact List.Perm.refl _
  | x :: t, i + 1, q, hq => (List.Perm.cons x (own_bring t i q hq)).trans (List.Perm.swap q x _)
theorem own_set {α : Type} : ∀ (os : List α) (i : Nat) (q r : α), os[i]? = some q → (r :: os.eraseIdx i).Perm (os.set i r)
  | [], i, q, r, hq => by cases hq
  | x :: t, 0, q, r, hq => List.Perm.refl _
  | x :: t, i + 1, q, r, hq => (List.Perm.swap x r _).trans (List.Perm.cons x (own_set t i q r hq))
theorem OView.bring (V : OView Z n0 h os) (i : Nat) {q : Addr × OObj} (hq : os[i]? = some q) : OView Z n0 h (q :: os.eraseIdx i) := V.perm (own_bring os i q hq)
theorem OView.at (V : OView Z n0 h os) (i : Nat) {q : Addr × OObj} (hq : os[i]? = some q) : n0 ≤ q.1 ∧ q.1 < h.size ∧ OHold Z h q.1 q.2 := V.2 q (List.mem_of_getElem? hq)
theorem OView.old (V : OView Z n0 h os) (i : Nat) {a : Addr} {o : OObj} (hq : os[i]? = some (a, o)) : n0 ≤ a := (V.at i hq).1
theorem OView.big (V : OView Z n0 h os) (i : Nat) {q : Addr × OObj} (hq : os[i]? = some q) : n0 ≤ h.size := Nat.le_trans (V.at i hq).1 (Nat.le_of_lt (V.at i hq).2.1)
theorem OView.exa (V : OView Z n0 h os) (i : Nat) {a : Addr} (hq : os[i]? = some (a, Sum.inl (C, ns, vs))) : Exa Z h a C := ((V.at i hq).2.2.1 _ rfl).1
theorem OView.fld (V : OView Z n0 h os) (i : Nat) {a : Addr} (hq : os[i]? = some (a, Sum.inl (C, ns, vs))) (j : Nat) {O n d : String} (hj : ns[j]? = some (O, n, d)) (hv : vs[j]? = some v) : Fld Z h a O n d v := ((V.at i hq).2.2.1 _ rfl).2.2 j _ v hj hv
theorem OView.arr (V : OView Z n0 h os) (i : Nat) {a : Addr} (hq : os[i]? = some (a, Sum.inr (ty, vs))) : ∃ cl : Cell, Arr Z h a cl ty ∧ cl.slots.toList = vs := (V.at i hq).2.2.2 _ rfl
theorem OView.up (V : OView Z n0 h os) (W : Wr h h' a sl v) (i : Nat) {o o' : OObj} (hq : os[i]? = some (a, o)) (H : OHold Z h' a o') : OView Z n0 h' (os.set i (a, o')) := by
  have V1 := V.bring i hq
  have V2 : OView Z n0 h' ((a, o') :: os.eraseIdx i) := by
    refine ⟨V1.1, fun q hq' => ?_⟩
    rcases List.mem_cons.mp hq' with rfl | hq'
    · exact ⟨(V.at i hq).1, by rw [W.size]; exact (V.at i hq).2.1, H⟩
    · obtain ⟨h1, h2, h3⟩ := V1.2 q (List.mem_cons_of_mem _ hq')
      refine ⟨h1, by rw [W.size]; exact h2, h3.other W fun e => ?_⟩
      have := (List.nodup_cons.mp V1.1).1
      exact this (List.mem_map.mpr ⟨q, hq', e⟩)
  exact V2.perm (own_set os i _ _ hq)
theorem OView.putF (V : OView Z n0 h os) (i : Nat) (hq : os[i]? = some (a, Sum.inl (C, ns, vs))) (j : Nat) {O n d : String} (hj : ns[j]? = some (O, n, d)) (W : Wr h h' a (Jvm.RoadKit.slotOf Z O n d) v) : OView Z n0 h' (os.set i (a, Sum.inl (C, ns, vs.set j v))) := V.up W i hq ((V.at i hq).2.2.putF hj W)
theorem OView.putA (V : OView Z n0 h os) (i : Nat) (hq : os[i]? = some (a, Sum.inr (ty, vs))) {j : Nat} (W : Wr h h' a j v) : OView Z n0 h' (os.set i (a, Sum.inr (ty, vs.set j v))) := V.up W i hq ((V.at i hq).2.2.putA W)
theorem OView.ext (V : OView Z n0 h os) (E : Ext h h') : OView Z n0 h' os := ⟨V.1, fun q hq => ⟨(V.2 q hq).1, Nat.lt_of_lt_of_le (V.2 q hq).2.1 E.1, (V.2 q hq).2.2.ext E⟩⟩
theorem OView.cons (V : OView Z n0 h os) (hn : n0 ≤ h.size) (E : Ext h h') (hlt : h.size < h'.size) (H : OHold Z h' h.size o) : OView Z n0 h' ((h.size, o) :: os) := by
  refine ⟨List.nodup_cons.mpr ⟨fun hm => ?_, V.1⟩, fun q hq => ?_⟩
  · obtain ⟨q, h1, h2⟩ := List.mem_map.mp hm
    exact Nat.lt_irrefl _ (h2 ▸ (V.2 q h1).2.1)
  · rcases List.mem_cons.mp hq with rfl | hq
    · exact ⟨hn, hlt, H⟩
    · exact (V.ext E).2 q hq
theorem own_pair (hL : ∀ x ∈ ns, Laid Z a0 C x.1 x.2.1 x.2.2) (hd : ∀ x ∈ ns, (parseFieldDescriptor x.2.2).isSome = true) (hn : ns.Pairwise (fun x y => x.2.1 ≠ y.2.1)) : ns.Pairwise (fun x y => Jvm.RoadKit.slotOf Z x.1 x.2.1 x.2.2 ≠ Jvm.RoadKit.slotOf Z y.1 y.2.1 y.2.2) :=
  hn.imp_of_mem fun {x y} hx hy hne => by
    obtain ⟨t, ht⟩ := Option.isSome_iff_exists.mp (hd x hx)
    obtain ⟨t', ht'⟩ := Option.isSome_iff_exists.mp (hd y hy)
    exact slot_ne (hL x hx) (hL y hy) hne ht ht'
/-- a fresh object, as 'new' leaves it -/
theorem OView.newObj (V : OView Z n0 h os) (hn : n0 ≤ h.size) (E : Ext h h') (A : Exa Z h' h.size C) (D : ∀ {O nm d : String} {ty : FieldType}, Laid Z a0 C O nm d → parseFieldDescriptor d = some ty → Fld Z h' h.size O nm d (defaultValue ty))
    (hL : ∀ x ∈ ns, Laid Z a0 C x.1 x.2.1 x.2.2) (hd : ns.map (fun x => (parseFieldDescriptor x.2.2).map defaultValue) = vs.map some) (hnm : ns.Pairwise (fun x y => x.2.1 ≠ y.2.1)) : OView Z n0 h' ((h.size, Sum.inl (C, ns, vs)) :: os) := by
  have hs : ∀ x ∈ ns, (parseFieldDescriptor x.2.2).isSome = true := fun x hx => by
    have h1 : (parseFieldDescriptor x.2.2).map defaultValue ∈ vs.map some := hd ▸ List.mem_map.mpr ⟨x, hx, rfl⟩
    obtain ⟨w, -, h2⟩ := List.mem_map.mp h1
    cases hp : parseFieldDescriptor x.2.2 with
    | none => rw [hp] at h2; cases h2
    | some t => rfl
  refine V.cons hn E A.lt (OHold.obj A (own_pair hL hs hnm) fun j k w e1 e2 => ?_)
  have h1 : (ns.map (fun x => (parseFieldDescriptor x.2.2).map defaultValue))[j]? = some ((parseFieldDescriptor k.2.2).map defaultValue) := by rw [List.getElem?_map, e1]; rfl
  have h2 : (vs.map some)[j]? = some (some w) := by rw [List.getElem?_map, e2]; rfl
  rw [hd, h2] at h1
  have h3 := Option.some.inj h1
  cases hp : parseFieldDescriptor k.2.2 with
  | none => rw [hp] at h3; cases h3
  | some t =>
    rw [hp] at h3
    cases Option.some.inj h3
    exact D (hL k (List.mem_of_getElem? e1)) hp
/-- a fresh array -/
theorem OView.newArr (V : OView Z n0 h os) (hn : n0 ≤ h.size) (E : Ext h h') {cA : ClassId} {z : Int32} (A : Arr Z h' h.size (newA cA ty z) ty) (k : Nat) (hk : z.toNatClampNeg = k) : OView Z n0 h' ((h.size, Sum.inr (ty, List.replicate k (defaultValue ty))) :: os) := by
  refine V.cons hn E A.lt (OHold.arr A ?_)
  rw [← hk]; simp [newA]
theorem own_inb {cl : Cell} {vs : List Value} (hs : cl.slots.toList = vs) {j : Int32} (k : Nat) (hj : j.toInt = (k : Int)) (hk : k < vs.length) : ¬ (j < 0 ∨ cl.slots.size ≤ j.toNatClampNeg) := by
  have h1 : cl.slots.size = vs.length := by rw [← hs]; simp
  have e0 : (0 : Int32).toInt = 0 := rfl
  rw [h1]
  simp only [Int32.lt_iff_toInt_lt, Int32.toNatClampNeg, hj, e0]
  omega
theorem own_clamp {j : Int32} (k : Nat) (hj : j.toInt = (k : Int)) : j.toNatClampNeg = k := by simp only [Int32.toNatClampNeg, hj]; omega
theorem own_get {cl : Cell} {vs : List Value} (hs : cl.slots.toList = vs) {j : Int32} (k : Nat) (hj : j.toInt = (k : Int)) {v : Value} (hv : vs[k]? = some v) : cl.slots[j.toNatClampNeg]? = some v := by
  rw [own_clamp k hj, ← Array.getElem?_toList, hs]; exact hv
theorem own_wr {vs : List Value} {j : Int32} (k : Nat) (hj : j.toInt = (k : Int)) (W : Wr h h' a j.toNatClampNeg v) : Wr h h' a k v := by rw [own_clamp k hj] at W; exact W
theorem own_len {cl : Cell} {vs : List Value} (hs : cl.slots.toList = vs) : cl.slots.size = vs.length := by rw [← hs]; simp
end OwnKit
/-! OWN KIT, second part: a walk that may load String constants (the wide frame) -/
section OwnWide
variable {p : Program} {l : Launch} {e : Env} {R : Room} {s : State} {m : MethodId} {args : Array Value} {below : List Frame} {meth : Method} {c : Code} {T : State} {locs : List Loc} {cells slots : Nat} {Z : State} {a0 : Array Value} {h h' : Heap} {n0 : Nat}
def OLeavesW (s Z : State) (EL : List (String × Nat)) (Q : Option Value → Heap → List Loc → Prop) (k n : Nat) (t : State) (o : Outcome) : Prop := ∃ v L, o = .returned v ∧ Q v t.heap L ∧ CHr Z EL s.vm s.heap t.vm t.heap ∧ ReturnedEndW s o t L k n
theorem OGets.retNW {vm₁ : Vm} {j : Nat} {EL : List (String × Nat)} (X : Stand p l e R (s.setVm vm₁) m args below meth c T locs cells slots) (hx : p.tables.exec = Jvm.exec) (hk : meth.locks = false) {t : FieldType} (hret : meth.sig.returnType = some t) (ht : t = .boolean ∨ t = .byte ∨ t = .char ∨ t = .short) {pc : Nat} {Ls : Array Slot} {z : Int32} {rest : List Value}
    (hd : decode c.code pc = .ok (.ireturn, 1)) (hS : s.Since vm₁ j) (hj : j ≤ T.heap.size) (hR : CHr Z EL s.vm s.heap T.vm T.heap) {Q : Option Value → Heap → List Loc → Prop} {k n : Nat} (hc : cells ≤ k) (hs : slots ≤ n) (hQ : Q (some (.int (nar t z))) T.heap locs) : OGets p e below (OLeavesW s Z EL Q k n) (T.setTop (mkF m pc Ls (.int z :: rest))) := by
  obtain ⟨fs, hr, hrun, hended, hW⟩ := X.leaveW hS hj (v := some (.int (nar t z))) (fun h => by rw [hret] at h; cases h) hk
  exact ⟨_, _, Jvm.RoadKit.retN X hx hret ht hd hr, hrun, hended, _, _, rfl, hQ, hR, hW.1, hW.2.1, hW.2.2.1, hW.2.2.2.mono hc hs⟩
theorem own_str {a b : Addr} {k : ClassId} {z : Int32} {vs : List Value} {ns : List (String × String × String)} {kk : Nat} (hL : ∀ x ∈ ns, Laid Z a0 "java/lang/String" x.1 x.2.1 x.2.2) (wi : (Cond.instantiable "java/lang/String" kk).before a0 Z = true) (E : Exa Z h a "java/lang/String") (Fv : Fld Z h a "java/lang/String" "value" "[B" (.ref b)) (Fc : Fld Z h a "java/lang/String" "coder" "B" (.int 0)) (A : Arv Z h b k .byte z vs (.int 0))
    (hq : (ns == [("java/lang/String", "value", "[B"), ("java/lang/String", "coder", "B")] && z.toNatClampNeg == vs.length) = true) : OView Z 0 h [((a, Sum.inl ("java/lang/String", ns, [.ref b, .int 0])) : Addr × OObj), (b, Sum.inr (.byte, vs))] := by
  obtain ⟨cl, Ar, -, hsz, -, H, -⟩ := A
  simp only [Bool.and_eq_true, beq_iff_eq] at hq
  obtain ⟨rfl, hl⟩ := hq
  have hne : a ≠ b := ne_arr E wi Ar
  refine ⟨by simpa using hne, fun q hq => ?_⟩
  rcases List.mem_cons.mp hq with rfl | hq
  · refine ⟨Nat.zero_le _, E.lt, OHold.obj E (own_pair hL (by decide) (by decide)) fun j k v e1 e2 => ?_⟩
    match j with
    | 0 => cases e1; cases e2; exact Fv
    | 1 => cases e1; cases e2; exact Fc
    | j + 2 => cases e1
  · cases List.mem_singleton.mp hq
    refine ⟨Nat.zero_le _, Ar.lt, OHold.arr Ar ?_⟩
    refine List.ext_getElem? fun i => ?_
    by_cases hi : i < cl.slots.size
    · have h1 := H i hi
      rw [Array.getElem?_toList, h1, List.getD_eq_getElem?_getD]
      have h2 : i < vs.length := by omega
      simp [h2]
    · rw [Array.getElem?_toList, Array.getElem?_eq_none (by omega), List.getElem?_eq_none (by omega)]
end OwnWide
/-! OWN KIT: views that are only read; a void end in the wide frame -/
section OwnRead
variable {p : Program} {l : Launch} {e : Env} {R : Room} {s : State} {m : MethodId} {args : Array Value} {below : List Frame} {meth : Method} {c : Code} {T : State} {locs : List Loc} {cells slots : Nat} {Z : State} {a0 : Array Value} {h h' : Heap} {n0 : Nat} {EL : List (String × Nat)} {vm : Vm}
variable {a b : Addr} {o : OObj} {sl : Nat} {v : Value} {os os' : List (Addr × OObj)} {C : String} {ns : List (String × String × String)} {vs : List Value} {ty : FieldType}
theorem OGets.retVW {vm₁ : Vm} {j : Nat} (X : Stand p l e R (s.setVm vm₁) m args below meth c T locs cells slots) (hx : p.tables.exec = Jvm.exec) (hk : meth.locks = false) (hret : meth.sig.returnType = none) {pc : Nat} {Ls : Array Slot}
    (hd : decode c.code pc = .ok (.return_, 1)) (hS : s.Since vm₁ j) (hj : j ≤ T.heap.size) (hR : CHr Z EL s.vm s.heap T.vm T.heap) {Q : Option Value → Heap → List Loc → Prop} {k n : Nat} (hc : cells ≤ k) (hs : slots ≤ n) (hQ : Q none T.heap locs) : OGets p e below (OLeavesW s Z EL Q k n) (T.setTop (mkF m pc Ls [])) := by
  obtain ⟨fs, hr, hrun, hended, hW⟩ := X.leaveW hS hj (v := none) (fun _ => rfl) hk
  exact ⟨_, _, X.returnOut hx hret hd hr, hrun, hended, _, _, rfl, hQ, hR, hW.1, hW.2.1, hW.2.2.1, hW.2.2.2.mono hc hs⟩
/-- objects that are only read: two may be one -/
def ORead (Z : State) (h : Heap) (os : List (Addr × OObj)) : Prop := ∀ q ∈ os, OHold Z h q.1 q.2
theorem OView.read (V : OView Z n0 h os) : ORead Z h os := fun q hq => (V.2 q hq).2.2
theorem ORead.at (V : ORead Z h os) (i : Nat) {q : Addr × OObj} (hq : os[i]? = some q) : OHold Z h q.1 q.2 := V q (List.mem_of_getElem? hq)
theorem ORead.exa (V : ORead Z h os) (i : Nat) {a : Addr} (hq : os[i]? = some (a, Sum.inl (C, ns, vs))) : Exa Z h a C := ((V.at i hq).1 _ rfl).1
theorem ORead.fld (V : ORead Z h os) (i : Nat) {a : Addr} (hq : os[i]? = some (a, Sum.inl (C, ns, vs))) (j : Nat) {O n d : String} (hj : ns[j]? = some (O, n, d)) (hv : vs[j]? = some v) : Fld Z h a O n d v := ((V.at i hq).1 _ rfl).2.2 j _ v hj hv
theorem ORead.arr (V : ORead Z h os) (i : Nat) {a : Addr} (hq : os[i]? = some (a, Sum.inr (ty, vs))) : ∃ cl : Cell, Arr Z h a cl ty ∧ cl.slots.toList = vs := (V.at i hq).2 _ rfl
theorem ORead.perm (V : ORead Z h os) (P : os.Perm os') : ORead Z h os' := fun q hq => V q (P.mem_iff.mpr hq)
theorem ORead.bring (V : ORead Z h os) (i : Nat) {q : Addr × OObj} (hq : os[i]? = some q) : ORead Z h (q :: os.eraseIdx i) := V.perm (own_bring os i q hq)
theorem ORead.ext (V : ORead Z h os) (E : Ext h h') : ORead Z h' os := fun q hq => (V q hq).ext E
theorem ORead.app (V : ORead Z h os) (V' : ORead Z h os') : ORead Z h (os ++ os') := fun q hq => (List.mem_append.mp hq).elim (V q) (V' q)
theorem ORead.one (H : OHold Z h a o) : ORead Z h [(a, o)] := fun q hq => by cases List.mem_singleton.mp hq; exact H
/-- one String under two names: one text -/
theorem own_same {k kb : Addr} {vs vs' : List Value} (F : Fld Z h a "java/lang/String" "value" "[B" (.ref b)) (G : Fld Z h k "java/lang/String" "value" "[B" (.ref kb)) (q : a = k) (A : ∃ cl : Cell, Arr Z h b cl .byte ∧ cl.slots.toList = vs) (A' : ∃ cl : Cell, Arr Z h kb cl .byte ∧ cl.slots.toList = vs') : vs = vs' := by
  have e1 : b = kb := Classical.byContradiction fun w => Fld.ne F G (fun u => w (Value.ref.inj u)) q
  subst e1
  obtain ⟨c1, a1, rfl⟩ := A
  obtain ⟨c2, a2, rfl⟩ := A'
  cases a1.1.symm.trans a2.1
  rfl
/-- a String whose bytes are not yet set is no constant -/
theorem own_safe (hal : Z.vm.Alike vm) (E : Exa Z h a "java/lang/String") (F : Fld Z h a "java/lang/String" "value" "[B" .null) : Safe Z EL vm h a := fun B => by
  obtain ⟨p, -, u, x, -, q, -, G, rfl | rfl⟩ := B
  · obtain ⟨cell, cf, k, i, f, h1, h2, -, -, -, -, h7⟩ := F
    have hc : cell = q.sC := Option.some.inj (h1.symm.trans (show h[q.sa]? = some q.sC from G.ha))
    obtain ⟨cS, ⟨⟨-, -, -, ⟨c1, k1, i1, f1, -⟩, -, -, -, v1, -⟩, -⟩, -⟩ := G
    obtain ⟨k3, e3, -⟩ := State.fieldFound?_setVm (s := { Z with heap := h }) (vm' := vm) hal h2
    have e4 := (show (Wst Z vm h).fieldFound? _ _ _ = _ from e3).symm.trans f1
    simp only [Option.some.injEq, Prod.mk.injEq] at e4
    rw [hc, e4.2.2.2, v1] at h7
    cases h7
  · obtain ⟨cell, k, e1, e2, e3, -, -⟩ := E
    have hc : cell = q.SA := Option.some.inj (e1.symm.trans (show h[q.sd]? = some q.SA from G.hd))
    obtain ⟨cS, -, -, hB, -⟩ := G
    have hB : vm.findClass "[B" = some q.SA.cls := hB
    rw [hal.findClass] at hB
    obtain ⟨k1, q1, q2⟩ := Vm.findClass_spec hB
    obtain ⟨k2, q3, q4⟩ := Vm.findClass_spec e2
    rw [hc] at q3
    cases q1.symm.trans q3
    exact absurd (q2.symm.trans q4) (by decide)
end OwnRead
theorem own_wS {Z : State} {a0 : Array Value} (hw : ∀ d ∈ tables_1, d.before a0 Z = true) : ∀ a ∈ Bundle.stringAtoms, a.before a0 Z = true := by
  intro a ha
  simp only [Bundle.stringAtoms, Bundle.sN, List.mem_cons, List.not_mem_nil, or_false] at ha
  rcases ha with rfl | rfl | rfl | rfl | rfl | rfl | rfl
  · exact (hw _ (List.mem_of_getElem? (i := 8) rfl))
  · exact (hw _ (List.mem_of_getElem? (i := 7) rfl))
  · exact (hw _ (List.mem_of_getElem? (i := 21) rfl))
  · exact (hw _ (List.mem_of_getElem? (i := 22) rfl))
  · exact (hw _ (List.mem_of_getElem? (i := 23) rfl))
  · exact (hw _ (List.mem_of_getElem? (i := 24) rfl))
  · exact (hw _ (List.mem_of_getElem? (i := 25) rfl))
def ns_String : List (String × String × String) := [("java/lang/String", "value", "[B"), ("java/lang/String", "coder", "B")]
theorem lay_ns_String {Z : State} {a0 : Array Value} (hw : ∀ d ∈ tables_1, d.before a0 Z = true) : ∀ x ∈ ns_String, Laid Z a0 "java/lang/String" x.1 x.2.1 x.2.2 := by
  intro x hx
  simp only [ns_String, List.mem_cons, List.not_mem_nil, or_false] at hx
  rcases hx with rfl | rfl
  · exact Or.inr (hw _ (List.mem_of_getElem? (i := 22) rfl))
  · exact Or.inr (hw _ (List.mem_of_getElem? (i := 23) rfl))
def yb (x : Int32) : Int32 := nar .byte (x.toInt8.toInt32)
def hb' (x : Int32) : Int32 := nar .byte ((x >>> ((0 : Int32) &&& 31)).toInt8.toInt32)
def lb' (x : Int32) : Int32 := nar .byte ((x >>> ((8 : Int32) &&& 31)).toInt8.toInt32)
def gcv (x y : Int32) : Int32 := nar .char ((((x &&& (255 : Int32)) <<< ((0 : Int32) &&& 31)) ||| ((y &&& (255 : Int32)) <<< ((8 : Int32) &&& 31))).toUInt32.toUInt16.toUInt32.toInt32)
def Ch (x : Int32) : Prop := 0 ≤ x.toInt ∧ x.toInt < 65536
theorem own_ch (x : Int32) : Ch (nar .char x) := (c_i2c x).2
theorem own_narC {x : Int32} (h : Ch x) : nar .char x = x := by
  have q := c_i2c x
  obtain ⟨h1, h2⟩ := h
  show x.toUInt32.toUInt16.toUInt32.toInt32 = x
  rw [← Int32.toInt_inj]
  omega
theorem own_yb {x : Int32} (h : Ch x) (u : ¬ (255 : Int32) < x) : yb x = 46 ↔ x = 46 := by
  obtain ⟨h1, h2⟩ := h
  rw [Int32.lt_iff_toInt_lt, show (255 : Int32).toInt = 255 from rfl] at u
  have q1 := c_i2b x
  have q2 := c_i2b (x.toInt8.toInt32)
  show (x.toInt8.toInt32).toInt8.toInt32 = 46 ↔ _
  rw [← Int32.toInt_inj, ← Int32.toInt_inj, show (46 : Int32).toInt = 46 from rfl]
  omega
theorem own_gc {x : Int32} (h : Ch x) (u : (255 : Int32) < x) : (255 : Int32) < gcv (hb' x) (lb' x) := by
  obtain ⟨h1, h2⟩ := h
  have a0 := c_ishr x 0 0 (by decide)
  have a1 := c_ishr x 8 8 (by decide)
  have b0 := c_i2b (x >>> ((0 : Int32) &&& 31)); have b0' := c_i2b ((x >>> ((0 : Int32) &&& 31)).toInt8.toInt32)
  have b1 := c_i2b (x >>> ((8 : Int32) &&& 31)); have b1' := c_i2b ((x >>> ((8 : Int32) &&& 31)).toInt8.toInt32)
  have e0 : (hb' x).toInt = ((x >>> ((0 : Int32) &&& 31)).toInt8.toInt32).toInt8.toInt32.toInt := rfl
  have e1 : (lb' x).toInt = ((x >>> ((8 : Int32) &&& 31)).toInt8.toInt32).toInt8.toInt32.toInt := rfl
  rw [← e0] at b0'
  rw [← e1] at b1'
  have m0 := c_mask (hb' x) 255 8 (by decide) (by decide)
  have m1 := c_mask (lb' x) 255 8 (by decide) (by decide)
  have s0 := c_ishl (hb' x &&& 255) 0 0 (by decide)
  have s1 := c_ishl (lb' x &&& 255) 8 8 (by decide)
  have f0 : (hb' x &&& 255).toInt = x.toInt % 256 := by omega
  have f1 : (lb' x &&& 255).toInt = x.toInt / 256 := by omega
  have r1 := ((hb' x &&& 255) <<< ((0 : Int32) &&& 31)).toInt_lt; have r2 := ((hb' x &&& 255) <<< ((0 : Int32) &&& 31)).le_toInt
  have r3 := ((lb' x &&& 255) <<< ((8 : Int32) &&& 31)).toInt_lt; have r4 := ((lb' x &&& 255) <<< ((8 : Int32) &&& 31)).le_toInt
  have g0 : ((hb' x &&& 255) <<< ((0 : Int32) &&& 31)).toInt = x.toInt % 256 := by omega
  have g1 : ((lb' x &&& 255) <<< ((8 : Int32) &&& 31)).toInt = x.toInt / 256 * 256 := by omega
  have o := c_or' ((hb' x &&& 255) <<< ((0 : Int32) &&& 31)) ((lb' x &&& 255) <<< ((8 : Int32) &&& 31)) 8 (by decide) 256 rfl (by omega) (by omega) (by omega)
  have k1 := c_i2c (((hb' x &&& 255) <<< ((0 : Int32) &&& 31)) ||| ((lb' x &&& 255) <<< ((8 : Int32) &&& 31)))
  have k2 := c_i2c ((((hb' x &&& 255) <<< ((0 : Int32) &&& 31)) ||| ((lb' x &&& 255) <<< ((8 : Int32) &&& 31))).toUInt32.toUInt16.toUInt32.toInt32)
  have e2 : (gcv (hb' x) (lb' x)).toInt = ((((hb' x &&& 255) <<< ((0 : Int32) &&& 31)) ||| ((lb' x &&& 255) <<< ((8 : Int32) &&& 31))).toUInt32.toUInt16.toUInt32.toInt32).toUInt32.toUInt16.toUInt32.toInt32.toInt := rfl
  rw [← e2] at k2
  rw [Int32.lt_iff_toInt_lt, show (255 : Int32).toInt = 255 from rfl] at u ⊢
  clear e2 e0 e1
  omega
theorem OView.tail {Z : State} {n0 : Nat} {h : Heap} {os : List (Addr × OObj)} {q : Addr × OObj} (V : OView Z n0 h (q :: os)) : OView Z n0 h os := ⟨(List.nodup_cons.mp V.1).2, fun r hr => V.2 r (List.mem_cons_of_mem _ hr)⟩
theorem pn_0 : plainName "com/example/hermod/hermod/PercentEncodingIsDotSegmentPinLaw" = true := by first | (simp [plainName, overriddenIn]; done) | decide +kernel
theorem dm2_0 : decode method_2_code 0 = .ok (.iload_n 0, 1) := by decide +kernel
theorem dm2_1 : decode method_2_code 1 = .ok (.ldc 7, 2) := by decide +kernel
theorem dm2_3 : decode method_2_code 3 = .ok (.iand, 1) := by decide +kernel
theorem dm2_4 : decode method_2_code 4 = .ok (.ifCond .eq 6, 3) := by decide +kernel
theorem dm2_10 : decode method_2_code 10 = .ok (.iload_n 0, 1) := by decide +kernel
theorem dm2_11 : decode method_2_code 11 = .ok (.ldc 8, 2) := by decide +kernel
theorem dm2_13 : decode method_2_code 13 = .ok (.iand, 1) := by decide +kernel
theorem dm2_14 : decode method_2_code 14 = .ok (.i2c, 1) := by decide +kernel
theorem dm2_15 : decode method_2_code 15 = .ok (.ireturn, 1) := by decide +kernel
theorem dm2_7 : decode method_2_code 7 = .ok (.bipush 46, 2) := by decide +kernel
theorem dm2_9 : decode method_2_code 9 = .ok (.ireturn, 1) := by decide +kernel
theorem ef_dr (m : MethodId) (x0 : Int32) : entryFrame m #[(.int x0)] 1 = mkF m 0 #[.val (.int x0)] [] := by first | (simp [entryFrame, mkF, argsToLocals, Value.category]; done) | rfl
def Q_dr (Z : State) (p0 : Int32) (h0 : Heap) (n0 : Nat) (v : Option Value) (h : Heap) (L : List Loc) : Prop := ∃ x : Int32, v = some (.int x) ∧ Ch x ∧ L = [] ∧ h = h0
set_option maxRecDepth 65536 in
set_option maxHeartbeats 40000000 in
theorem rm_dr (l : Launch) (Z : State) (a0 : Array Value) (hw : ∀ d ∈ tables_1, d.before a0 Z = true) (ws : List Jvm.Cond) (p0 : Int32) (h0 : Heap) (n0 : Nat) (Z0 : n0 ≤ h0.size) :
    MetFree l (⟨"com/example/hermod/hermod/PercentEncodingIsDotSegmentPinLaw", "draw", "(I)C"⟩ : MethodName) (head1 (Jvm.Cond.code (⟨"com/example/hermod/hermod/PercentEncodingIsDotSegmentPinLaw", "draw", "(I)C"⟩ : MethodName) method_2_code 1 (some .char) :: ws) ({ frames := 0, cells := 0, slots := 0, locals := 0 } : Room)) (fun a_ U => a_ = #[(.int p0)] ∧ Z.Warmed39 U.vm ∧ U.heap = h0) (fun _ _ _ _ _ => True) (fun _ U o U' => ∃ v L, o = .returned v ∧ Q_dr Z p0 h0 n0 v U'.heap L ∧ FrameEnd U o U' L ({ frames := 0, cells := 0, slots := 0, locals := 0 } : Room).cells ({ frames := 0, cells := 0, slots := 0, locals := 0 } : Room).slots) := by
  refine MetFree.of_bodySF (plainFor_of_name pn_0) hisR ?_
  intro p e s m args below meth c s₁ Bd hml0 hP hK
  obtain ⟨rfl, hZ, hh⟩ := hP
  have hx := Bd.exec
  have hby := Bd.bytes
  have hlk : meth.locks = false := Bd.notSynchronized
  have hml : c.maxLocals = 1 := hml0
  have hown : s.vm.findClass "com/example/hermod/hermod/PercentEncodingIsDotSegmentPinLaw" = some m.cls := findClass_of_methodNamed Bd.named
  have hnm := (name_of_methodNamed Bd.named Bd.method).1
  have X0 : Stand p l e ({ frames := 0, cells := 0, slots := 0, locals := 0 } : Room) s m #[(.int p0)] below meth c s₁ [] 0 0 := Stand.of_body Bd
  have e0 : s₁.heap = h0 := by rw [← hh, Bd.state]; rfl
  have N0 := Fr.nil n0
  show OGets p e below (OLeaves s (Q_dr Z p0 h0 n0 ) ({ frames := 0, cells := 0, slots := 0, locals := 0 } : Room).cells ({ frames := 0, cells := 0, slots := 0, locals := 0 } : Room).slots) _
  refine OGets.enter (ef_dr m p0) ?_
  show OGets p e below _ (s₁.setTop (mkF m 0 #[.val (.int p0)] []))
  refine OGets.step (fun _ => XS.iloadN X0.here hx rfl (hb hby dm2_0) rfl) ?_
  refine OGets.step (fun _ => X0.ldcInt hx hown (mvT hZ (hw _ (List.mem_of_getElem? (i := 4) rfl))) (g := (mkF m 1 #[.val (.int p0)] [(.int p0)])) rfl (hb hby dm2_1) _) ?_
  refine OGets.step (fun _ => XS.iand X0.here hx rfl (hb hby dm2_3) rfl) ?_
  by_cases hc4_1 : (p0 &&& (65536 : Int32)) = (0 : Int32)
  · refine OGets.step (fun _ => XS.ifYes X0.here hx rfl (pc0 := 4) (pc' := 10) rfl (hb hby dm2_4) rfl ((if0 _ _).trans (teq hc4_1).1) (by decide) (by decide)) ?_
    show OGets p e below _ (s₁.setTop (mkF m 10 #[.val (.int p0)] []))
    refine OGets.step (fun _ => XS.iloadN X0.here hx rfl (hb hby dm2_10) rfl) ?_
    refine OGets.step (fun _ => X0.ldcInt hx hown (mvT hZ (hw _ (List.mem_of_getElem? (i := 5) rfl))) (g := (mkF m 11 #[.val (.int p0)] [(.int p0)])) rfl (hb hby dm2_11) _) ?_
    refine OGets.step (fun _ => XS.iand X0.here hx rfl (hb hby dm2_13) rfl) ?_
    refine OGets.step (fun _ => XS.i2c X0.here hx rfl (hb hby dm2_14) rfl) ?_
    refine OGets.retN X0 hx hlk (t := .char) Bd.returns (by simp) (hb hby dm2_15) (Nat.le_of_ble_eq_true rfl) (Nat.le_of_ble_eq_true rfl) ?_
    exact ⟨_, rfl, own_ch _, rfl, e0⟩
  · refine OGets.step (fun _ => XS.ifNo X0.here hx rfl (hb hby dm2_4) rfl ((if0 _ _).trans (feq hc4_1).1)) ?_
    show OGets p e below _ (s₁.setTop (mkF m 7 #[.val (.int p0)] []))
    refine OGets.step (fun _ => XS.bipush X0.here hx rfl (hb hby dm2_7)) ?_
    refine OGets.retN X0 hx hlk (t := .char) Bd.returns (by simp) (hb hby dm2_9) (Nat.le_of_ble_eq_true rfl) (Nat.le_of_ble_eq_true rfl) ?_
    exact ⟨_, rfl, own_ch _, rfl, e0⟩
theorem pn_1 : plainName "java/lang/StringUTF16" = true := by first | (simp [plainName, overriddenIn]; done) | decide +kernel
theorem dj52m3_0 : decode jdk_52_method_3_code 0 = .ok (.iload_n 0, 1) := by decide +kernel
theorem dj52m3_1 : decode jdk_52_method_3_code 1 = .ok (.ifCond .ge 11, 3) := by decide +kernel
theorem dj52m3_12 : decode jdk_52_method_3_code 12 = .ok (.iload_n 0, 1) := by decide +kernel
theorem dj52m3_13 : decode jdk_52_method_3_code 13 = .ok (.ldc 20, 2) := by decide +kernel
theorem dj52m3_15 : decode jdk_52_method_3_code 15 = .ok (.if_icmp .lt 40, 3) := by decide +kernel
theorem dj52m3_55 : decode jdk_52_method_3_code 55 = .ok (.iload_n 0, 1) := by decide +kernel
theorem dj52m3_56 : decode jdk_52_method_3_code 56 = .ok (.iconst 1, 1) := by decide +kernel
theorem dj52m3_57 : decode jdk_52_method_3_code 57 = .ok (.ishl, 1) := by decide +kernel
theorem dj52m3_58 : decode jdk_52_method_3_code 58 = .ok (.ireturn, 1) := by decide +kernel
theorem ef_nbl1 (m : MethodId) (x0 : Int32) : entryFrame m #[(.int x0)] 1 = mkF m 0 #[.val (.int x0)] [] := by first | (simp [entryFrame, mkF, argsToLocals, Value.category]; done) | rfl
def Q_nbl1 (Z : State)  (h0 : Heap) (n0 : Nat) (v : Option Value) (h : Heap) (L : List Loc) : Prop := v = some (.int (2 : Int32)) ∧ L = [] ∧ h = h0
set_option maxRecDepth 65536 in
set_option maxHeartbeats 40000000 in
theorem rm_nbl1 (l : Launch) (Z : State) (a0 : Array Value) (hw : ∀ d ∈ tables_1, d.before a0 Z = true) (ws : List Jvm.Cond)  (h0 : Heap) (n0 : Nat) (Z0 : n0 ≤ h0.size) :
    MetFree l (⟨"java/lang/StringUTF16", "newBytesLength", "(I)I"⟩ : MethodName) (head1 (Jvm.Cond.code (⟨"java/lang/StringUTF16", "newBytesLength", "(I)I"⟩ : MethodName) jdk_52_method_3_code 1 (some .int) :: ws) ({ frames := 0, cells := 0, slots := 0, locals := 0 } : Room)) (fun a_ U => a_ = #[(.int (1 : Int32))] ∧ Z.Warmed39 U.vm ∧ U.heap = h0) (fun _ _ _ _ _ => True) (fun _ U o U' => ∃ v L, o = .returned v ∧ Q_nbl1 Z  h0 n0 v U'.heap L ∧ FrameEnd U o U' L ({ frames := 0, cells := 0, slots := 0, locals := 0 } : Room).cells ({ frames := 0, cells := 0, slots := 0, locals := 0 } : Room).slots) := by
  refine MetFree.of_bodySF (plainFor_of_name pn_1) hisR ?_
  intro p e s m args below meth c s₁ Bd hml0 hP hK
  obtain ⟨rfl, hZ, hh⟩ := hP
  have hx := Bd.exec
  have hby := Bd.bytes
  have hlk : meth.locks = false := Bd.notSynchronized
  have hml : c.maxLocals = 1 := hml0
  have hown : s.vm.findClass "java/lang/StringUTF16" = some m.cls := findClass_of_methodNamed Bd.named
  have hnm := (name_of_methodNamed Bd.named Bd.method).1
  have X0 : Stand p l e ({ frames := 0, cells := 0, slots := 0, locals := 0 } : Room) s m #[(.int (1 : Int32))] below meth c s₁ [] 0 0 := Stand.of_body Bd
  have e0 : s₁.heap = h0 := by rw [← hh, Bd.state]; rfl
  have N0 := Fr.nil n0
  show OGets p e below (OLeaves s (Q_nbl1 Z  h0 n0 ) ({ frames := 0, cells := 0, slots := 0, locals := 0 } : Room).cells ({ frames := 0, cells := 0, slots := 0, locals := 0 } : Room).slots) _
  refine OGets.enter (ef_nbl1 m (1 : Int32)) ?_
  show OGets p e below _ (s₁.setTop (mkF m 0 #[.val (.int (1 : Int32))] []))
  refine OGets.step (fun _ => XS.iloadN X0.here hx rfl (hb hby dj52m3_0) rfl) ?_
  refine OGets.step (fun _ => XS.ifYes X0.here hx rfl (pc0 := 1) (pc' := 12) rfl (hb hby dj52m3_1) rfl ((if0 _ _).trans (flt (by decide : ¬ ((1 : Int32) < (0 : Int32)))).2.1) (by decide) (by decide)) ?_
  refine OGets.step (fun _ => XS.iloadN X0.here hx rfl (hb hby dj52m3_12) rfl) ?_
  refine OGets.step (fun _ => X0.ldcInt hx hown (mvT hZ (hw _ (List.mem_of_getElem? (i := 64) rfl))) (g := (mkF m 13 #[.val (.int (1 : Int32))] [(.int (1 : Int32))])) rfl (hb hby dj52m3_13) _) ?_
  refine OGets.step (fun _ => XS.icmpYes X0.here hx rfl (pc0 := 15) (pc' := 55) rfl (hb hby dj52m3_15) rfl (tlt (by decide : (1 : Int32) < (1073741823 : Int32))).1 (by decide) (by decide)) ?_
  refine OGets.step (fun _ => XS.iloadN X0.here hx rfl (hb hby dj52m3_55) rfl) ?_
  show OGets p e below _ (s₁.setTop (mkF m 56 #[.val (.int (1 : Int32))] [(.int (1 : Int32))]))
  refine OGets.step (fun _ => XS.iconst X0.here hx rfl (hb hby dj52m3_56)) ?_
  refine OGets.step (fun _ => XS.ishl X0.here hx rfl (hb hby dj52m3_57) rfl) ?_
  show OGets p e below _ (s₁.setTop (mkF m 58 #[.val (.int (1 : Int32))] [(.int ((1 : Int32) <<< ((1 : Int32) &&& 31)))]))
  rw [show ((1 : Int32) <<< ((1 : Int32) &&& 31)) = (2 : Int32) from by decide]
  show OGets p e below _ (s₁.setTop (mkF m 58 #[.val (.int (1 : Int32))] [(.int (2 : Int32))]))
  refine OGets.retI X0 hx hlk Bd.returns (hb hby dj52m3_58) (Nat.le_of_ble_eq_true rfl) (Nat.le_of_ble_eq_true rfl) ?_
  exact ⟨congrArg (fun z => some (Value.int z)) (show _ = (2 : Int32) from by decide), rfl, e0⟩
theorem dj52m2_0 : decode jdk_52_method_2_code 0 = .ok (.iload_n 0, 1) := by decide +kernel
theorem dj52m2_1 : decode jdk_52_method_2_code 1 = .ok (.invokestatic 11, 3) := by decide +kernel
theorem pd_2 : parseMethodDescriptor "(I)I" = some ⟨[.int], some .int⟩ := by decide +kernel
theorem dj52m2_4 : decode jdk_52_method_2_code 4 = .ok (.newarray .byte, 2) := by decide +kernel
theorem dj52m2_6 : decode jdk_52_method_2_code 6 = .ok (.areturn, 1) := by decide +kernel
theorem ef_nbf1 (m : MethodId) (x0 : Int32) : entryFrame m #[(.int x0)] 1 = mkF m 0 #[.val (.int x0)] [] := by first | (simp [entryFrame, mkF, argsToLocals, Value.category]; done) | rfl
def Q_nbf1 (Z : State)  (h0 : Heap) (n0 : Nat) (F : List (Addr × OObj)) (v : Option Value) (h : Heap) (L : List Loc) : Prop := ∃ b : Addr, v = some (.ref b) ∧ Fr n0 L ∧ OView Z n0 h (((b, Sum.inr (.byte, [(.int (0 : Int32)), (.int (0 : Int32))])) : Addr × OObj) :: F) ∧ Old Z n0 h
set_option maxRecDepth 65536 in
set_option maxHeartbeats 40000000 in
theorem rm_nbf1 (l : Launch) (Z : State) (a0 : Array Value) (hw : ∀ d ∈ tables_1, d.before a0 Z = true) (ws : List Jvm.Cond)  (h0 : Heap) (n0 : Nat) (F : List (Addr × OObj)) (Z0 : n0 ≤ h0.size) (V0 : OView Z n0 h0 (F)) (O0 : Old Z n0 h0) :
    MetFree l (⟨"java/lang/StringUTF16", "newBytesFor", "(I)[B"⟩ : MethodName) (head1 (Jvm.Cond.code (⟨"java/lang/StringUTF16", "newBytesFor", "(I)[B"⟩ : MethodName) jdk_52_method_2_code 1 (some (.array .byte)) :: ws) ({ frames := 1, cells := 1, slots := 2, locals := 12 } : Room)) (fun a_ U => a_ = #[(.int (1 : Int32))] ∧ Z.Warmed39 U.vm ∧ U.heap = h0) (fun _ _ _ _ _ => True) (fun _ U o U' => ∃ v L, o = .returned v ∧ Q_nbf1 Z  h0 n0 F v U'.heap L ∧ FrameEnd U o U' L ({ frames := 1, cells := 1, slots := 2, locals := 12 } : Room).cells ({ frames := 1, cells := 1, slots := 2, locals := 12 } : Room).slots) := by
  refine MetFree.of_bodySF (plainFor_of_name pn_1) hisR ?_
  intro p e s m args below meth c s₁ Bd hml0 hP hK
  obtain ⟨rfl, hZ, hh⟩ := hP
  have hx := Bd.exec
  have hby := Bd.bytes
  have hlk : meth.locks = false := Bd.notSynchronized
  have hml : c.maxLocals = 1 := hml0
  have hown : s.vm.findClass "java/lang/StringUTF16" = some m.cls := findClass_of_methodNamed Bd.named
  have hnm := (name_of_methodNamed Bd.named Bd.method).1
  have X0 : Stand p l e ({ frames := 1, cells := 1, slots := 2, locals := 12 } : Room) s m #[(.int (1 : Int32))] below meth c s₁ [] 0 0 := Stand.of_body Bd
  have e0 : s₁.heap = h0 := by rw [← hh, Bd.state]; rfl
  have N0 := Fr.nil n0
  show OGets p e below (OLeaves s (Q_nbf1 Z  h0 n0 F ) ({ frames := 1, cells := 1, slots := 2, locals := 12 } : Room).cells ({ frames := 1, cells := 1, slots := 2, locals := 12 } : Room).slots) _
  refine OGets.enter (ef_nbf1 m (1 : Int32)) ?_
  show OGets p e below _ (s₁.setTop (mkF m 0 #[.val (.int (1 : Int32))] []))
  refine OGets.step (fun _ => XS.iloadN X0.here hx rfl (hb hby dj52m2_0) rfl) ?_
  obtain ⟨_, _, ⟨T4, L4, k4, n4⟩, -, X4, ⟨Lc4, hQ4, l4, y4, z4⟩, st4⟩ := Jvm.LawKit.callS X0 hx (y := (⟨"java/lang/StringUTF16", "newBytesLength", "(I)I"⟩ : MethodName)) hown (mvT hZ (hw _ (List.mem_of_getElem? (i := 61) rfl))) (mvT hZ (hw _ (List.mem_of_getElem? (i := 62) rfl))) (mvT hZ (hw _ (List.mem_of_getElem? (i := 47) rfl))) (mvT hZ (hw _ (List.mem_of_getElem? (i := 63) rfl))) (by decide) (backOf (W := 0) (rm_nbl1 l Z a0 hw []  h0 n0  Z0 ) hZ (hw _ (List.mem_of_getElem? (i := 63) rfl)) (hw _ (List.mem_of_getElem? (i := 47) rfl)) (by decide) (by decide)) (g := (mkF m 1 #[.val (.int (1 : Int32))] [(.int (1 : Int32))])) rfl (by rw [hml]; rfl) (argsL := [(.int (1 : Int32))]) (rest := []) (lenOf pd_2 rfl) rfl (by show 2 * 0 + _ ≤ _; exact Nat.le_of_eq rfl) (hb hby dj52m2_1) (fun _ _ => ⟨rfl, e0, Nat.le_of_ble_eq_true rfl, Nat.le_of_ble_eq_true rfl⟩)
  dsimp only [Pt.U, Pt.locs, Pt.cells, Pt.slots] at X4 l4 y4 z4 st4 hQ4
  rw [l4, y4, z4] at X4
  obtain ⟨rfl, rfl, e4⟩ := hQ4
  have N4 := Fr.app N0 (Fr.nil n0)
  refine OGets.step st4 ?_
  obtain ⟨T5, h5, k5, X5, e5, E5, A5, st5⟩ := newP X4 hx hZ (hw _ (List.mem_of_getElem? (i := 21) rfl)) e4 (g := (mkF m 4 #[.val (.int (1 : Int32))] [(.int (2 : Int32))])) rfl (hb hby dj52m2_4) rfl (by decide) (cap := 2) (by decide) (by decide) (by decide) (by decide)
  have V5' := V0.newArr Z0 E5 A5 2 rfl
  have Z5 : n0 ≤ h5.size := Nat.le_trans Z0 E5.1
  obtain ⟨b5, g5⟩ : ∃ z, z = h0.size := ⟨_, rfl⟩
  rw [← g5] at V5' st5
  have V5 : OView Z n0 h5 (((b5, Sum.inr (.byte, [(.int (0 : Int32)), (.int (0 : Int32))])) : Addr × OObj) :: F) := V5'
  have O5 := O0.ext E5
  refine OGets.step st5 ?_
  refine OGets.retA X5 hx hlk (t := (.array .byte)) Bd.returns rfl rfl rfl (hb hby dj52m2_6) (Nat.le_of_ble_eq_true rfl) (Nat.le_of_ble_eq_true rfl) ?_
  rw [e5]
  exact ⟨b5, rfl, N4, V5, O5⟩
theorem dj52m4_0 : decode jdk_52_method_4_code 0 = .ok (.getstatic 44, 3) := by decide +kernel
theorem dj52m4_3 : decode jdk_52_method_4_code 3 = .ok (.ifCond .ne 25, 3) := by decide +kernel
theorem dj52m4_28 : decode jdk_52_method_4_code 28 = .ok (.iload_n 1, 1) := by decide +kernel
theorem dj52m4_29 : decode jdk_52_method_4_code 29 = .ok (.iconst 1, 1) := by decide +kernel
theorem dj52m4_30 : decode jdk_52_method_4_code 30 = .ok (.ishl, 1) := by decide +kernel
theorem dj52m4_31 : decode jdk_52_method_4_code 31 = .ok (.istore_n 1, 1) := by decide +kernel
theorem dj52m4_32 : decode jdk_52_method_4_code 32 = .ok (.aload_n 0, 1) := by decide +kernel
theorem dj52m4_33 : decode jdk_52_method_4_code 33 = .ok (.iload_n 1, 1) := by decide +kernel
theorem dj52m4_34 : decode jdk_52_method_4_code 34 = .ok (.iinc 1 1, 3) := by decide +kernel
theorem dj52m4_37 : decode jdk_52_method_4_code 37 = .ok (.iload_n 2, 1) := by decide +kernel
theorem dj52m4_38 : decode jdk_52_method_4_code 38 = .ok (.getstatic 59, 3) := by decide +kernel
theorem dj52m4_41 : decode jdk_52_method_4_code 41 = .ok (.ishr, 1) := by decide +kernel
theorem dj52m4_42 : decode jdk_52_method_4_code 42 = .ok (.i2b, 1) := by decide +kernel
theorem dj52m4_43 : decode jdk_52_method_4_code 43 = .ok (.bastore, 1) := by decide +kernel
theorem dj52m4_44 : decode jdk_52_method_4_code 44 = .ok (.aload_n 0, 1) := by decide +kernel
theorem dj52m4_45 : decode jdk_52_method_4_code 45 = .ok (.iload_n 1, 1) := by decide +kernel
theorem dj52m4_46 : decode jdk_52_method_4_code 46 = .ok (.iload_n 2, 1) := by decide +kernel
theorem dj52m4_47 : decode jdk_52_method_4_code 47 = .ok (.getstatic 63, 3) := by decide +kernel
theorem dj52m4_50 : decode jdk_52_method_4_code 50 = .ok (.ishr, 1) := by decide +kernel
theorem dj52m4_51 : decode jdk_52_method_4_code 51 = .ok (.i2b, 1) := by decide +kernel
theorem dj52m4_52 : decode jdk_52_method_4_code 52 = .ok (.bastore, 1) := by decide +kernel
theorem dj52m4_53 : decode jdk_52_method_4_code 53 = .ok (.return_, 1) := by decide +kernel
theorem ef_pch10 (m : MethodId) (x0 : Addr) (x1 : Int32) (x2 : Int32) : entryFrame m #[(.ref x0), (.int x1), (.int x2)] 3 = mkF m 0 #[.val (.ref x0), .val (.int x1), .val (.int x2)] [] := by first | (simp [entryFrame, mkF, argsToLocals, Value.category]; done) | rfl
def Q_pch10 (Z : State) (b : Addr) (x : Int32) (h0 : Heap) (n0 : Nat) (F : List (Addr × OObj)) (v : Option Value) (h : Heap) (L : List Loc) : Prop := v = none ∧ Fr n0 L ∧ OView Z n0 h (((b, Sum.inr (.byte, [(.int (hb' x)), (.int (lb' x))])) : Addr × OObj) :: F) ∧ Old Z n0 h
set_option maxRecDepth 65536 in
set_option maxHeartbeats 40000000 in
theorem rm_pch10 (l : Launch) (Z : State) (a0 : Array Value) (hw : ∀ d ∈ tables_1, d.before a0 Z = true) (ws : List Jvm.Cond) (b : Addr) (x : Int32) (h0 : Heap) (n0 : Nat) (F : List (Addr × OObj)) (Z0 : n0 ≤ h0.size) (SA : Sta Z Z.heap "java/lang/StringUTF16" "$assertionsDisabled" "Z" (.int (1 : Int32))) (SH : Sta Z Z.heap "java/lang/StringUTF16" "HI_BYTE_SHIFT" "I" (.int (0 : Int32))) (SL : Sta Z Z.heap "java/lang/StringUTF16" "LO_BYTE_SHIFT" "I" (.int (8 : Int32))) (V0 : OView Z n0 h0 (((b, Sum.inr (.byte, [(.int (0 : Int32)), (.int (0 : Int32))])) : Addr × OObj) :: F)) (O0 : Old Z n0 h0) :
    MetFree l (⟨"java/lang/StringUTF16", "putChar", "([BII)V"⟩ : MethodName) (head1 (Jvm.Cond.code (⟨"java/lang/StringUTF16", "putChar", "([BII)V"⟩ : MethodName) jdk_52_method_4_code 3 none :: ws) ({ frames := 0, cells := 0, slots := 0, locals := 0 } : Room)) (fun a_ U => a_ = #[(.ref b), (.int (0 : Int32)), (.int x)] ∧ Z.Warmed39 U.vm ∧ U.heap = h0) (fun _ _ _ _ _ => True) (fun _ U o U' => ∃ v L, o = .returned v ∧ Q_pch10 Z b x h0 n0 F v U'.heap L ∧ FrameEnd U o U' L ({ frames := 0, cells := 0, slots := 0, locals := 0 } : Room).cells ({ frames := 0, cells := 0, slots := 0, locals := 0 } : Room).slots) := by
  refine MetFree.of_bodySF (plainFor_of_name pn_1) hisR ?_
  intro p e s m args below meth c s₁ Bd hml0 hP hK
  obtain ⟨rfl, hZ, hh⟩ := hP
  have hx := Bd.exec
  have hby := Bd.bytes
  have hlk : meth.locks = false := Bd.notSynchronized
  have hml : c.maxLocals = 3 := hml0
  have hown : s.vm.findClass "java/lang/StringUTF16" = some m.cls := findClass_of_methodNamed Bd.named
  have hnm := (name_of_methodNamed Bd.named Bd.method).1
  have X0 : Stand p l e ({ frames := 0, cells := 0, slots := 0, locals := 0 } : Room) s m #[(.ref b), (.int (0 : Int32)), (.int x)] below meth c s₁ [] 0 0 := Stand.of_body Bd
  have e0 : s₁.heap = h0 := by rw [← hh, Bd.state]; rfl
  have N0 := Fr.nil n0
  show OGets p e below (OLeaves s (Q_pch10 Z b x h0 n0 F ) ({ frames := 0, cells := 0, slots := 0, locals := 0 } : Room).cells ({ frames := 0, cells := 0, slots := 0, locals := 0 } : Room).slots) _
  refine OGets.enter (ef_pch10 m b (0 : Int32) x) ?_
  show OGets p e below _ (s₁.setTop (mkF m 0 #[.val (.ref b), .val (.int (0 : Int32)), .val (.int x)] []))
  obtain ⟨T6, X6, e6, st6⟩ := getS2 X0 hx hZ hown (host := "") (Or.inl (hw _ (List.mem_of_getElem? (i := 68) rfl))) Via.refl e0 (SA.ext O0.2) (g := (mkF m 0 #[.val (.ref b), .val (.int (0 : Int32)), .val (.int x)] [])) rfl (hb hby dj52m4_0)
  refine OGets.step st6 ?_
  refine OGets.step (fun _ => XS.ifYes X6.here hx rfl (pc0 := 3) (pc' := 28) rfl (hb hby dj52m4_3) rfl ((if0 _ _).trans (feq (by decide : ¬ ((1 : Int32) = (0 : Int32)))).2) (by decide) (by decide)) ?_
  refine OGets.step (fun _ => XS.iloadN X6.here hx rfl (hb hby dj52m4_28) rfl) ?_
  refine OGets.step (fun _ => XS.iconst X6.here hx rfl (hb hby dj52m4_29)) ?_
  refine OGets.step (fun _ => XS.ishl X6.here hx rfl (hb hby dj52m4_30) rfl) ?_
  show OGets p e below _ (T6.setTop (mkF m 31 #[.val (.ref b), .val (.int (0 : Int32)), .val (.int x)] [(.int ((0 : Int32) <<< ((1 : Int32) &&& 31)))]))
  rw [show ((0 : Int32) <<< ((1 : Int32) &&& 31)) = (0 : Int32) from by decide]
  show OGets p e below _ (T6.setTop (mkF m 31 #[.val (.ref b), .val (.int (0 : Int32)), .val (.int x)] [(.int (0 : Int32))]))
  refine OGets.step (fun _ => XS.istoreN X6.here hx rfl (hb hby dj52m4_31) rfl (l' := #[.val (.ref b), .val (.int (0 : Int32)), .val (.int x)]) rfl) ?_
  refine OGets.step (fun _ => XS.aloadN X6.here hx rfl (hb hby dj52m4_32) rfl rfl) ?_
  refine OGets.step (fun _ => XS.iloadN X6.here hx rfl (hb hby dj52m4_33) rfl) ?_
  refine OGets.step (fun _ => XS.iinc X6.here hx rfl (hb hby dj52m4_34) rfl (l' := #[.val (.ref b), .val (.int (1 : Int32)), .val (.int x)]) rfl) ?_
  refine OGets.step (fun _ => XS.iloadN X6.here hx rfl (hb hby dj52m4_37) rfl) ?_
  obtain ⟨T8, X8, e8, st8⟩ := getS2 X6 hx hZ hown (host := "") (Or.inl (hw _ (List.mem_of_getElem? (i := 69) rfl))) Via.refl e6 (SH.ext O0.2) (g := (mkF m 38 #[.val (.ref b), .val (.int (1 : Int32)), .val (.int x)] [(.int x), (.int (0 : Int32)), (.ref b)])) rfl (hb hby dj52m4_38)
  refine OGets.step st8 ?_
  refine OGets.step (fun _ => XS.ishr X8.here hx rfl (hb hby dj52m4_41) rfl) ?_
  refine OGets.step (fun _ => XS.i2b X8.here hx rfl (hb hby dj52m4_42) rfl) ?_
  obtain ⟨cl9, Ar9, S9⟩ := V0.arr 0 rfl
  obtain ⟨T9, h9, X9, e9, W9', st9⟩ := stB X8 hx hZ e8 Ar9 (j := (0 : Int32)) (own_inb S9 0 (by decide) (Nat.le_of_ble_eq_true rfl)) (g := (mkF m 43 #[.val (.ref b), .val (.int (1 : Int32)), .val (.int x)] [(.int ((x >>> ((0 : Int32) &&& 31)).toInt8.toInt32)), (.int (0 : Int32)), (.ref b)])) rfl rfl (hb hby dj52m4_43)
  have W9 := own_wr (vs := []) 0 (by decide) W9'
  have V9 : OView Z n0 h9 (((b, Sum.inr (.byte, [(.int (hb' x)), (.int (0 : Int32))])) : Addr × OObj) :: F) := V0.putA 0 rfl W9
  have N9 := Fr.snoc X9 N0 (V0.old 0 rfl)
  have Z9 : n0 ≤ h9.size := by rw [W9.size]; exact Z0
  have O9 := O0.wr W9 (V0.old 0 rfl)
  refine OGets.step st9 ?_
  refine OGets.step (fun _ => XS.aloadN X9.here hx rfl (hb hby dj52m4_44) rfl rfl) ?_
  refine OGets.step (fun _ => XS.iloadN X9.here hx rfl (hb hby dj52m4_45) rfl) ?_
  refine OGets.step (fun _ => XS.iloadN X9.here hx rfl (hb hby dj52m4_46) rfl) ?_
  obtain ⟨T10, X10, e10, st10⟩ := getS2 X9 hx hZ hown (host := "") (Or.inl (hw _ (List.mem_of_getElem? (i := 70) rfl))) Via.refl e9 (SL.ext O9.2) (g := (mkF m 47 #[.val (.ref b), .val (.int (1 : Int32)), .val (.int x)] [(.int x), (.int (1 : Int32)), (.ref b)])) rfl (hb hby dj52m4_47)
  refine OGets.step st10 ?_
  refine OGets.step (fun _ => XS.ishr X10.here hx rfl (hb hby dj52m4_50) rfl) ?_
  refine OGets.step (fun _ => XS.i2b X10.here hx rfl (hb hby dj52m4_51) rfl) ?_
  obtain ⟨cl11, Ar11, S11⟩ := V9.arr 0 rfl
  obtain ⟨T11, h11, X11, e11, W11', st11⟩ := stB X10 hx hZ e10 Ar11 (j := (1 : Int32)) (own_inb S11 1 (by decide) (Nat.le_of_ble_eq_true rfl)) (g := (mkF m 52 #[.val (.ref b), .val (.int (1 : Int32)), .val (.int x)] [(.int ((x >>> ((8 : Int32) &&& 31)).toInt8.toInt32)), (.int (1 : Int32)), (.ref b)])) rfl rfl (hb hby dj52m4_52)
  have W11 := own_wr (vs := []) 1 (by decide) W11'
  have V11 : OView Z n0 h11 (((b, Sum.inr (.byte, [(.int (hb' x)), (.int (lb' x))])) : Addr × OObj) :: F) := V9.putA 0 rfl W11
  have N11 := Fr.snoc X11 N9 (V9.old 0 rfl)
  have Z11 : n0 ≤ h11.size := by rw [W11.size]; exact Z9
  have O11 := O9.wr W11 (V9.old 0 rfl)
  refine OGets.step st11 ?_
  refine OGets.retV X11 hx hlk Bd.returns (hb hby dj52m4_53) (Nat.le_of_ble_eq_true rfl) (Nat.le_of_ble_eq_true rfl) ?_
  rw [e11]
  exact ⟨rfl, N11, V11, O11⟩
theorem dj52m14_0 : decode jdk_52_method_14_code 0 = .ok (.iload_n 2, 1) := by decide +kernel
theorem dj52m14_1 : decode jdk_52_method_14_code 1 = .ok (.invokestatic 107, 3) := by decide +kernel
theorem pd_3 : parseMethodDescriptor "(I)[B" = some ⟨[.int], some (.array .byte)⟩ := by decide +kernel
theorem dj52m14_4 : decode jdk_52_method_14_code 4 = .ok (.astore_n 3, 1) := by decide +kernel
theorem dj52m14_5 : decode jdk_52_method_14_code 5 = .ok (.iconst 0, 1) := by decide +kernel
theorem dj52m14_6 : decode jdk_52_method_14_code 6 = .ok (.istore 4, 2) := by decide +kernel
theorem dj52m14_8 : decode jdk_52_method_14_code 8 = .ok (.iload 4, 2) := by decide +kernel
theorem dj52m14_10 : decode jdk_52_method_14_code 10 = .ok (.iload_n 2, 1) := by decide +kernel
theorem dj52m14_11 : decode jdk_52_method_14_code 11 = .ok (.if_icmp .ge 21, 3) := by decide +kernel
theorem dj52m14_14 : decode jdk_52_method_14_code 14 = .ok (.aload_n 3, 1) := by decide +kernel
theorem dj52m14_15 : decode jdk_52_method_14_code 15 = .ok (.iload 4, 2) := by decide +kernel
theorem dj52m14_17 : decode jdk_52_method_14_code 17 = .ok (.aload_n 0, 1) := by decide +kernel
theorem dj52m14_18 : decode jdk_52_method_14_code 18 = .ok (.iload_n 1, 1) := by decide +kernel
theorem dj52m14_19 : decode jdk_52_method_14_code 19 = .ok (.caload, 1) := by decide +kernel
theorem dj52m14_20 : decode jdk_52_method_14_code 20 = .ok (.invokestatic 111, 3) := by decide +kernel
theorem pd_4 : parseMethodDescriptor "([BII)V" = some ⟨[(.array .byte), .int, .int], none⟩ := by decide +kernel
theorem dj52m14_23 : decode jdk_52_method_14_code 23 = .ok (.iinc 1 1, 3) := by decide +kernel
theorem dj52m14_26 : decode jdk_52_method_14_code 26 = .ok (.iinc 4 1, 3) := by decide +kernel
theorem dj52m14_29 : decode jdk_52_method_14_code 29 = .ok (.goto (-21), 3) := by decide +kernel
theorem dj52m14_32 : decode jdk_52_method_14_code 32 = .ok (.aload_n 3, 1) := by decide +kernel
theorem dj52m14_33 : decode jdk_52_method_14_code 33 = .ok (.areturn, 1) := by decide +kernel
theorem ef_tob1 (m : MethodId) (x0 : Addr) (x1 : Int32) (x2 : Int32) : entryFrame m #[(.ref x0), (.int x1), (.int x2)] 5 = mkF m 0 #[.val (.ref x0), .val (.int x1), .val (.int x2), .unset, .unset] [] := by first | (simp [entryFrame, mkF, argsToLocals, Value.category]; done) | rfl
def Q_tob1 (Z : State) (a : Addr) (c0 : Int32) (h0 : Heap) (n0 : Nat) (F : List (Addr × OObj)) (v : Option Value) (h : Heap) (L : List Loc) : Prop := ∃ b : Addr, v = some (.ref b) ∧ Fr n0 L ∧ OView Z n0 h (((b, Sum.inr (.byte, [(.int (hb' c0)), (.int (lb' c0))])) : Addr × OObj) :: ((a, Sum.inr (.char, [(.int c0)])) : Addr × OObj) :: F) ∧ Old Z n0 h
set_option maxRecDepth 65536 in
set_option maxHeartbeats 40000000 in
theorem rm_tob1 (l : Launch) (Z : State) (a0 : Array Value) (hw : ∀ d ∈ tables_1, d.before a0 Z = true) (ws : List Jvm.Cond) (a : Addr) (c0 : Int32) (h0 : Heap) (n0 : Nat) (F : List (Addr × OObj)) (Z0 : n0 ≤ h0.size) (SA : Sta Z Z.heap "java/lang/StringUTF16" "$assertionsDisabled" "Z" (.int (1 : Int32))) (SH : Sta Z Z.heap "java/lang/StringUTF16" "HI_BYTE_SHIFT" "I" (.int (0 : Int32))) (SL : Sta Z Z.heap "java/lang/StringUTF16" "LO_BYTE_SHIFT" "I" (.int (8 : Int32))) (V0 : OView Z n0 h0 (((a, Sum.inr (.char, [(.int c0)])) : Addr × OObj) :: F)) (O0 : Old Z n0 h0) :
    MetFree l (⟨"java/lang/StringUTF16", "toBytes", "([CII)[B"⟩ : MethodName) (head1 (Jvm.Cond.code (⟨"java/lang/StringUTF16", "toBytes", "([CII)[B"⟩ : MethodName) jdk_52_method_14_code 5 (some (.array .byte)) :: ws) ({ frames := 2, cells := 1, slots := 2, locals := 24 } : Room)) (fun a_ U => a_ = #[(.ref a), (.int (0 : Int32)), (.int (1 : Int32))] ∧ Z.Warmed39 U.vm ∧ U.heap = h0) (fun _ _ _ _ _ => True) (fun _ U o U' => ∃ v L, o = .returned v ∧ Q_tob1 Z a c0 h0 n0 F v U'.heap L ∧ FrameEnd U o U' L ({ frames := 2, cells := 1, slots := 2, locals := 24 } : Room).cells ({ frames := 2, cells := 1, slots := 2, locals := 24 } : Room).slots) := by
  refine MetFree.of_bodySF (plainFor_of_name pn_1) hisR ?_
  intro p e s m args below meth c s₁ Bd hml0 hP hK
  obtain ⟨rfl, hZ, hh⟩ := hP
  have hx := Bd.exec
  have hby := Bd.bytes
  have hlk : meth.locks = false := Bd.notSynchronized
  have hml : c.maxLocals = 5 := hml0
  have hown : s.vm.findClass "java/lang/StringUTF16" = some m.cls := findClass_of_methodNamed Bd.named
  have hnm := (name_of_methodNamed Bd.named Bd.method).1
  have X0 : Stand p l e ({ frames := 2, cells := 1, slots := 2, locals := 24 } : Room) s m #[(.ref a), (.int (0 : Int32)), (.int (1 : Int32))] below meth c s₁ [] 0 0 := Stand.of_body Bd
  have e0 : s₁.heap = h0 := by rw [← hh, Bd.state]; rfl
  have N0 := Fr.nil n0
  show OGets p e below (OLeaves s (Q_tob1 Z a c0 h0 n0 F ) ({ frames := 2, cells := 1, slots := 2, locals := 24 } : Room).cells ({ frames := 2, cells := 1, slots := 2, locals := 24 } : Room).slots) _
  refine OGets.enter (ef_tob1 m a (0 : Int32) (1 : Int32)) ?_
  show OGets p e below _ (s₁.setTop (mkF m 0 #[.val (.ref a), .val (.int (0 : Int32)), .val (.int (1 : Int32)), .unset, .unset] []))
  refine OGets.step (fun _ => XS.iloadN X0.here hx rfl (hb hby dj52m14_0) rfl) ?_
  obtain ⟨_, _, ⟨T12, L12, k12, n12⟩, -, X12, ⟨Lc12, hQ12, l12, y12, z12⟩, st12⟩ := Jvm.LawKit.callS X0 hx (y := (⟨"java/lang/StringUTF16", "newBytesFor", "(I)[B"⟩ : MethodName)) hown (mvT hZ (hw _ (List.mem_of_getElem? (i := 58) rfl))) (mvT hZ (hw _ (List.mem_of_getElem? (i := 59) rfl))) (mvT hZ (hw _ (List.mem_of_getElem? (i := 47) rfl))) (mvT hZ (hw _ (List.mem_of_getElem? (i := 60) rfl))) (by decide) (backOf (W := 0) (rm_nbf1 l Z a0 hw []  h0 n0 _ Z0  V0 O0) hZ (hw _ (List.mem_of_getElem? (i := 60) rfl)) (hw _ (List.mem_of_getElem? (i := 47) rfl)) (by decide) (by decide)) (g := (mkF m 1 #[.val (.ref a), .val (.int (0 : Int32)), .val (.int (1 : Int32)), .unset, .unset] [(.int (1 : Int32))])) rfl (by rw [hml]; rfl) (argsL := [(.int (1 : Int32))]) (rest := []) (lenOf pd_3 rfl) rfl (by show 2 * 0 + _ ≤ _; exact Nat.le_of_eq rfl) (hb hby dj52m14_1) (fun _ _ => ⟨rfl, e0, Nat.le_of_ble_eq_true rfl, Nat.le_of_ble_eq_true rfl⟩)
  dsimp only [Pt.U, Pt.locs, Pt.cells, Pt.slots] at X12 l12 y12 z12 st12 hQ12
  rw [l12, y12, z12] at X12
  obtain ⟨b12, rfl, N12q, V12, O12q⟩ := hQ12
  have N12 := Fr.app N0 N12q
  have V12v : OView Z n0 T12.heap (((b12, Sum.inr (.byte, [(.int (0 : Int32)), (.int (0 : Int32))])) : Addr × OObj) :: ((a, Sum.inr (.char, [(.int c0)])) : Addr × OObj) :: F) := V12
  have Z12 : n0 ≤ T12.heap.size := V12v.big 0 rfl
  refine OGets.step st12 ?_
  refine OGets.step (fun _ => XS.astoreN X12.here hx rfl (hb hby dj52m14_4) rfl rfl (l' := #[.val (.ref a), .val (.int (0 : Int32)), .val (.int (1 : Int32)), .val (.ref b12), .unset]) rfl) ?_
  refine OGets.step (fun _ => XS.iconst X12.here hx rfl (hb hby dj52m14_5)) ?_
  refine OGets.step (fun _ => XS.istore X12.here hx rfl (hb hby dj52m14_6) rfl (l' := #[.val (.ref a), .val (.int (0 : Int32)), .val (.int (1 : Int32)), .val (.ref b12), .val (.int (0 : Int32))]) rfl) ?_
  refine OGets.step (fun _ => XS.iload X12.here hx rfl (hb hby dj52m14_8) rfl) ?_
  refine OGets.step (fun _ => XS.iloadN X12.here hx rfl (hb hby dj52m14_10) rfl) ?_
  show OGets p e below _ (T12.setTop (mkF m 11 #[.val (.ref a), .val (.int (0 : Int32)), .val (.int (1 : Int32)), .val (.ref b12), .val (.int (0 : Int32))] [(.int (1 : Int32)), (.int (0 : Int32))]))
  refine OGets.step (fun _ => XS.icmpNo X12.here hx rfl (hb hby dj52m14_11) rfl (tlt (by decide : (0 : Int32) < (1 : Int32))).2.1) ?_
  refine OGets.step (fun _ => XS.aloadN X12.here hx rfl (hb hby dj52m14_14) rfl rfl) ?_
  refine OGets.step (fun _ => XS.iload X12.here hx rfl (hb hby dj52m14_15) rfl) ?_
  refine OGets.step (fun _ => XS.aloadN X12.here hx rfl (hb hby dj52m14_17) rfl rfl) ?_
  refine OGets.step (fun _ => XS.iloadN X12.here hx rfl (hb hby dj52m14_18) rfl) ?_
  obtain ⟨cl14, Ar14, S14⟩ := V12v.arr 1 rfl
  refine OGets.step (fun _ => X12.caload hx (j := (0 : Int32)) (v := (.int c0)) Ar14.1 (State.isArrayOf_alike hZ.alike Ar14.2.1) Ar14.2.2 (own_inb S14 0 (by decide) (Nat.le_of_ble_eq_true rfl)) (own_get S14 0 (by decide) rfl) (g := (mkF m 19 #[.val (.ref a), .val (.int (0 : Int32)), .val (.int (1 : Int32)), .val (.ref b12), .val (.int (0 : Int32))] [(.int (0 : Int32)), (.ref a), (.int (0 : Int32)), (.ref b12)])) rfl rfl (hb hby dj52m14_19) _) ?_
  show OGets p e below _ (T12.setTop (mkF m 20 #[.val (.ref a), .val (.int (0 : Int32)), .val (.int (1 : Int32)), .val (.ref b12), .val (.int (0 : Int32))] [(.int c0), (.int (0 : Int32)), (.ref b12)]))
  obtain ⟨_, _, ⟨T15, L15, k15, n15⟩, -, X15, ⟨Lc15, hQ15, l15, y15, z15⟩, st15⟩ := Jvm.LawKit.callS X12 hx (y := (⟨"java/lang/StringUTF16", "putChar", "([BII)V"⟩ : MethodName)) hown (mvT hZ (hw _ (List.mem_of_getElem? (i := 65) rfl))) (mvT hZ (hw _ (List.mem_of_getElem? (i := 66) rfl))) (mvT hZ (hw _ (List.mem_of_getElem? (i := 47) rfl))) (mvT hZ (hw _ (List.mem_of_getElem? (i := 67) rfl))) (by decide) (backOf (W := 0) (rm_pch10 l Z a0 hw [] b12 c0 T12.heap n0 _ Z12 SA SH SL V12v O12q) hZ (hw _ (List.mem_of_getElem? (i := 67) rfl)) (hw _ (List.mem_of_getElem? (i := 47) rfl)) (by decide) (by decide)) (g := (mkF m 20 #[.val (.ref a), .val (.int (0 : Int32)), .val (.int (1 : Int32)), .val (.ref b12), .val (.int (0 : Int32))] [(.int c0), (.int (0 : Int32)), (.ref b12)])) rfl (by rw [hml]; rfl) (argsL := [(.ref b12), (.int (0 : Int32)), (.int c0)]) (rest := []) (lenOf pd_4 rfl) rfl (by show 2 * 0 + _ ≤ _; exact Nat.le_of_eq rfl) (hb hby dj52m14_20) (fun _ _ => ⟨rfl, rfl, Nat.le_of_ble_eq_true rfl, Nat.le_of_ble_eq_true rfl⟩)
  dsimp only [Pt.U, Pt.locs, Pt.cells, Pt.slots] at X15 l15 y15 z15 st15 hQ15
  rw [l15, y15, z15] at X15
  obtain ⟨rfl, N15q, V15, O15q⟩ := hQ15
  have N15 := Fr.app N12 N15q
  have V15v : OView Z n0 T15.heap (((b12, Sum.inr (.byte, [(.int (hb' c0)), (.int (lb' c0))])) : Addr × OObj) :: ((a, Sum.inr (.char, [(.int c0)])) : Addr × OObj) :: F) := V15
  have Z15 : n0 ≤ T15.heap.size := V15v.big 0 rfl
  refine OGets.step st15 ?_
  refine OGets.step (fun _ => XS.iinc X15.here hx rfl (hb hby dj52m14_23) rfl (l' := #[.val (.ref a), .val (.int (1 : Int32)), .val (.int (1 : Int32)), .val (.ref b12), .val (.int (0 : Int32))]) rfl) ?_
  refine OGets.step (fun _ => XS.iinc X15.here hx rfl (hb hby dj52m14_26) rfl (l' := #[.val (.ref a), .val (.int (1 : Int32)), .val (.int (1 : Int32)), .val (.ref b12), .val (.int (1 : Int32))]) rfl) ?_
  refine OGets.step (fun _ => XS.goto X15.here hx rfl (pc0 := 29) (pc' := 8) rfl (hb hby dj52m14_29) (by decide) (by decide)) ?_
  refine OGets.step (fun _ => XS.iload X15.here hx rfl (hb hby dj52m14_8) rfl) ?_
  refine OGets.step (fun _ => XS.iloadN X15.here hx rfl (hb hby dj52m14_10) rfl) ?_
  show OGets p e below _ (T15.setTop (mkF m 11 #[.val (.ref a), .val (.int (1 : Int32)), .val (.int (1 : Int32)), .val (.ref b12), .val (.int (1 : Int32))] [(.int (1 : Int32)), (.int (1 : Int32))]))
  refine OGets.step (fun _ => XS.icmpYes X15.here hx rfl (pc0 := 11) (pc' := 32) rfl (hb hby dj52m14_11) rfl (flt (by decide : ¬ ((1 : Int32) < (1 : Int32)))).2.1 (by decide) (by decide)) ?_
  refine OGets.step (fun _ => XS.aloadN X15.here hx rfl (hb hby dj52m14_32) rfl rfl) ?_
  refine OGets.retA X15 hx hlk (t := (.array .byte)) Bd.returns rfl rfl rfl (hb hby dj52m14_33) (Nat.le_of_ble_eq_true rfl) (Nat.le_of_ble_eq_true rfl) ?_
  exact ⟨b12, rfl, N15, V15v, O15q⟩
theorem dj52m5_0 : decode jdk_52_method_5_code 0 = .ok (.getstatic 44, 3) := by decide +kernel
theorem dj52m5_3 : decode jdk_52_method_5_code 3 = .ok (.ifCond .ne 25, 3) := by decide +kernel
theorem dj52m5_28 : decode jdk_52_method_5_code 28 = .ok (.iload_n 1, 1) := by decide +kernel
theorem dj52m5_29 : decode jdk_52_method_5_code 29 = .ok (.iconst 1, 1) := by decide +kernel
theorem dj52m5_30 : decode jdk_52_method_5_code 30 = .ok (.ishl, 1) := by decide +kernel
theorem dj52m5_31 : decode jdk_52_method_5_code 31 = .ok (.istore_n 1, 1) := by decide +kernel
theorem dj52m5_32 : decode jdk_52_method_5_code 32 = .ok (.aload_n 0, 1) := by decide +kernel
theorem dj52m5_33 : decode jdk_52_method_5_code 33 = .ok (.iload_n 1, 1) := by decide +kernel
theorem dj52m5_34 : decode jdk_52_method_5_code 34 = .ok (.iinc 1 1, 3) := by decide +kernel
theorem dj52m5_37 : decode jdk_52_method_5_code 37 = .ok (.baload, 1) := by decide +kernel
theorem dj52m5_38 : decode jdk_52_method_5_code 38 = .ok (.sipush 255, 3) := by decide +kernel
theorem dj52m5_41 : decode jdk_52_method_5_code 41 = .ok (.iand, 1) := by decide +kernel
theorem dj52m5_42 : decode jdk_52_method_5_code 42 = .ok (.getstatic 59, 3) := by decide +kernel
theorem dj52m5_45 : decode jdk_52_method_5_code 45 = .ok (.ishl, 1) := by decide +kernel
theorem dj52m5_46 : decode jdk_52_method_5_code 46 = .ok (.aload_n 0, 1) := by decide +kernel
theorem dj52m5_47 : decode jdk_52_method_5_code 47 = .ok (.iload_n 1, 1) := by decide +kernel
theorem dj52m5_48 : decode jdk_52_method_5_code 48 = .ok (.baload, 1) := by decide +kernel
theorem dj52m5_49 : decode jdk_52_method_5_code 49 = .ok (.sipush 255, 3) := by decide +kernel
theorem dj52m5_52 : decode jdk_52_method_5_code 52 = .ok (.iand, 1) := by decide +kernel
theorem dj52m5_53 : decode jdk_52_method_5_code 53 = .ok (.getstatic 63, 3) := by decide +kernel
theorem dj52m5_56 : decode jdk_52_method_5_code 56 = .ok (.ishl, 1) := by decide +kernel
theorem dj52m5_57 : decode jdk_52_method_5_code 57 = .ok (.ior, 1) := by decide +kernel
theorem dj52m5_58 : decode jdk_52_method_5_code 58 = .ok (.i2c, 1) := by decide +kernel
theorem dj52m5_59 : decode jdk_52_method_5_code 59 = .ok (.ireturn, 1) := by decide +kernel
theorem ef_gch10 (m : MethodId) (x0 : Addr) (x1 : Int32) : entryFrame m #[(.ref x0), (.int x1)] 2 = mkF m 0 #[.val (.ref x0), .val (.int x1)] [] := by first | (simp [entryFrame, mkF, argsToLocals, Value.category]; done) | rfl
def Q_gch10 (Z : State) (b : Addr) (y0 : Int32) (y1 : Int32) (h0 : Heap) (n0 : Nat) (F : List (Addr × OObj)) (v : Option Value) (h : Heap) (L : List Loc) : Prop := v = some (.int (gcv y0 y1)) ∧ L = [] ∧ h = h0
set_option maxRecDepth 65536 in
set_option maxHeartbeats 40000000 in
theorem rm_gch10 (l : Launch) (Z : State) (a0 : Array Value) (hw : ∀ d ∈ tables_1, d.before a0 Z = true) (ws : List Jvm.Cond) (b : Addr) (y0 : Int32) (y1 : Int32) (h0 : Heap) (n0 : Nat) (F : List (Addr × OObj)) (Z0 : n0 ≤ h0.size) (SA : Sta Z Z.heap "java/lang/StringUTF16" "$assertionsDisabled" "Z" (.int (1 : Int32))) (SH : Sta Z Z.heap "java/lang/StringUTF16" "HI_BYTE_SHIFT" "I" (.int (0 : Int32))) (SL : Sta Z Z.heap "java/lang/StringUTF16" "LO_BYTE_SHIFT" "I" (.int (8 : Int32))) (V0 : OView Z n0 h0 (((b, Sum.inr (.byte, [(.int y0), (.int y1)])) : Addr × OObj) :: F)) (O0 : Old Z n0 h0) :
    MetFree l (⟨"java/lang/StringUTF16", "getChar", "([BI)C"⟩ : MethodName) (head1 (Jvm.Cond.code (⟨"java/lang/StringUTF16", "getChar", "([BI)C"⟩ : MethodName) jdk_52_method_5_code 2 (some .char) :: ws) ({ frames := 0, cells := 0, slots := 0, locals := 0 } : Room)) (fun a_ U => a_ = #[(.ref b), (.int (0 : Int32))] ∧ Z.Warmed39 U.vm ∧ U.heap = h0) (fun _ _ _ _ _ => True) (fun _ U o U' => ∃ v L, o = .returned v ∧ Q_gch10 Z b y0 y1 h0 n0 F v U'.heap L ∧ FrameEnd U o U' L ({ frames := 0, cells := 0, slots := 0, locals := 0 } : Room).cells ({ frames := 0, cells := 0, slots := 0, locals := 0 } : Room).slots) := by
  refine MetFree.of_bodySF (plainFor_of_name pn_1) hisR ?_
  intro p e s m args below meth c s₁ Bd hml0 hP hK
  obtain ⟨rfl, hZ, hh⟩ := hP
  have hx := Bd.exec
  have hby := Bd.bytes
  have hlk : meth.locks = false := Bd.notSynchronized
  have hml : c.maxLocals = 2 := hml0
  have hown : s.vm.findClass "java/lang/StringUTF16" = some m.cls := findClass_of_methodNamed Bd.named
  have hnm := (name_of_methodNamed Bd.named Bd.method).1
  have X0 : Stand p l e ({ frames := 0, cells := 0, slots := 0, locals := 0 } : Room) s m #[(.ref b), (.int (0 : Int32))] below meth c s₁ [] 0 0 := Stand.of_body Bd
  have e0 : s₁.heap = h0 := by rw [← hh, Bd.state]; rfl
  have N0 := Fr.nil n0
  show OGets p e below (OLeaves s (Q_gch10 Z b y0 y1 h0 n0 F ) ({ frames := 0, cells := 0, slots := 0, locals := 0 } : Room).cells ({ frames := 0, cells := 0, slots := 0, locals := 0 } : Room).slots) _
  refine OGets.enter (ef_gch10 m b (0 : Int32)) ?_
  show OGets p e below _ (s₁.setTop (mkF m 0 #[.val (.ref b), .val (.int (0 : Int32))] []))
  obtain ⟨T17, X17, e17, st17⟩ := getS2 X0 hx hZ hown (host := "") (Or.inl (hw _ (List.mem_of_getElem? (i := 68) rfl))) Via.refl e0 (SA.ext O0.2) (g := (mkF m 0 #[.val (.ref b), .val (.int (0 : Int32))] [])) rfl (hb hby dj52m5_0)
  refine OGets.step st17 ?_
  refine OGets.step (fun _ => XS.ifYes X17.here hx rfl (pc0 := 3) (pc' := 28) rfl (hb hby dj52m5_3) rfl ((if0 _ _).trans (feq (by decide : ¬ ((1 : Int32) = (0 : Int32)))).2) (by decide) (by decide)) ?_
  refine OGets.step (fun _ => XS.iloadN X17.here hx rfl (hb hby dj52m5_28) rfl) ?_
  refine OGets.step (fun _ => XS.iconst X17.here hx rfl (hb hby dj52m5_29)) ?_
  refine OGets.step (fun _ => XS.ishl X17.here hx rfl (hb hby dj52m5_30) rfl) ?_
  show OGets p e below _ (T17.setTop (mkF m 31 #[.val (.ref b), .val (.int (0 : Int32))] [(.int ((0 : Int32) <<< ((1 : Int32) &&& 31)))]))
  rw [show ((0 : Int32) <<< ((1 : Int32) &&& 31)) = (0 : Int32) from by decide]
  show OGets p e below _ (T17.setTop (mkF m 31 #[.val (.ref b), .val (.int (0 : Int32))] [(.int (0 : Int32))]))
  refine OGets.step (fun _ => XS.istoreN X17.here hx rfl (hb hby dj52m5_31) rfl (l' := #[.val (.ref b), .val (.int (0 : Int32))]) rfl) ?_
  refine OGets.step (fun _ => XS.aloadN X17.here hx rfl (hb hby dj52m5_32) rfl rfl) ?_
  refine OGets.step (fun _ => XS.iloadN X17.here hx rfl (hb hby dj52m5_33) rfl) ?_
  refine OGets.step (fun _ => XS.iinc X17.here hx rfl (hb hby dj52m5_34) rfl (l' := #[.val (.ref b), .val (.int (1 : Int32))]) rfl) ?_
  obtain ⟨cl19, Ar19, S19⟩ := V0.arr 0 rfl
  refine OGets.step (fun _ => X17.baloadBytes hx (j := (0 : Int32)) (v := (.int y0)) (by rw [e17]; exact Ar19.1) (State.isArrayOf_alike hZ.alike Ar19.2.1) Ar19.2.2 (own_inb S19 0 (by decide) (Nat.le_of_ble_eq_true rfl)) (own_get S19 0 (by decide) rfl) (g := (mkF m 37 #[.val (.ref b), .val (.int (1 : Int32))] [(.int (0 : Int32)), (.ref b)])) rfl rfl (hb hby dj52m5_37) _) ?_
  refine OGets.step (fun _ => XS.sipush X17.here hx rfl (hb hby dj52m5_38)) ?_
  show OGets p e below _ (T17.setTop (mkF m 41 #[.val (.ref b), .val (.int (1 : Int32))] [(.int (255 : Int32)), (.int y0)]))
  refine OGets.step (fun _ => XS.iand X17.here hx rfl (hb hby dj52m5_41) rfl) ?_
  obtain ⟨T20, X20, e20, st20⟩ := getS2 X17 hx hZ hown (host := "") (Or.inl (hw _ (List.mem_of_getElem? (i := 69) rfl))) Via.refl e17 (SH.ext O0.2) (g := (mkF m 42 #[.val (.ref b), .val (.int (1 : Int32))] [(.int (y0 &&& (255 : Int32)))])) rfl (hb hby dj52m5_42)
  refine OGets.step st20 ?_
  refine OGets.step (fun _ => XS.ishl X20.here hx rfl (hb hby dj52m5_45) rfl) ?_
  refine OGets.step (fun _ => XS.aloadN X20.here hx rfl (hb hby dj52m5_46) rfl rfl) ?_
  refine OGets.step (fun _ => XS.iloadN X20.here hx rfl (hb hby dj52m5_47) rfl) ?_
  obtain ⟨cl21, Ar21, S21⟩ := V0.arr 0 rfl
  refine OGets.step (fun _ => X20.baloadBytes hx (j := (1 : Int32)) (v := (.int y1)) (by rw [e20]; exact Ar21.1) (State.isArrayOf_alike hZ.alike Ar21.2.1) Ar21.2.2 (own_inb S21 1 (by decide) (Nat.le_of_ble_eq_true rfl)) (own_get S21 1 (by decide) rfl) (g := (mkF m 48 #[.val (.ref b), .val (.int (1 : Int32))] [(.int (1 : Int32)), (.ref b), (.int ((y0 &&& (255 : Int32)) <<< ((0 : Int32) &&& 31)))])) rfl rfl (hb hby dj52m5_48) _) ?_
  refine OGets.step (fun _ => XS.sipush X20.here hx rfl (hb hby dj52m5_49)) ?_
  show OGets p e below _ (T20.setTop (mkF m 52 #[.val (.ref b), .val (.int (1 : Int32))] [(.int (255 : Int32)), (.int y1), (.int ((y0 &&& (255 : Int32)) <<< ((0 : Int32) &&& 31)))]))
  refine OGets.step (fun _ => XS.iand X20.here hx rfl (hb hby dj52m5_52) rfl) ?_
  obtain ⟨T22, X22, e22, st22⟩ := getS2 X20 hx hZ hown (host := "") (Or.inl (hw _ (List.mem_of_getElem? (i := 70) rfl))) Via.refl e20 (SL.ext O0.2) (g := (mkF m 53 #[.val (.ref b), .val (.int (1 : Int32))] [(.int (y1 &&& (255 : Int32))), (.int ((y0 &&& (255 : Int32)) <<< ((0 : Int32) &&& 31)))])) rfl (hb hby dj52m5_53)
  refine OGets.step st22 ?_
  refine OGets.step (fun _ => XS.ishl X22.here hx rfl (hb hby dj52m5_56) rfl) ?_
  refine OGets.step (fun _ => XS.ior X22.here hx rfl (hb hby dj52m5_57) rfl) ?_
  refine OGets.step (fun _ => XS.i2c X22.here hx rfl (hb hby dj52m5_58) rfl) ?_
  refine OGets.retN X22 hx hlk (t := .char) Bd.returns (by simp) (hb hby dj52m5_59) (Nat.le_of_ble_eq_true rfl) (Nat.le_of_ble_eq_true rfl) ?_
  exact ⟨rfl, rfl, e22⟩
theorem dj52m15_0 : decode jdk_52_method_15_code 0 = .ok (.iload_n 1, 1) := by decide +kernel
theorem dj52m15_1 : decode jdk_52_method_15_code 1 = .ok (.aload_n 0, 1) := by decide +kernel
theorem dj52m15_2 : decode jdk_52_method_15_code 2 = .ok (.arraylength, 1) := by decide +kernel
theorem dj52m15_3 : decode jdk_52_method_15_code 3 = .ok (.isub, 1) := by decide +kernel
theorem dj52m15_4 : decode jdk_52_method_15_code 4 = .ok (.bipush 31, 2) := by decide +kernel
theorem dj52m15_6 : decode jdk_52_method_15_code 6 = .ok (.iushr, 1) := by decide +kernel
theorem dj52m15_7 : decode jdk_52_method_15_code 7 = .ok (.i2b, 1) := by decide +kernel
theorem dj52m15_8 : decode jdk_52_method_15_code 8 = .ok (.ireturn, 1) := by decide +kernel
theorem ef_cfl10 (m : MethodId) (x0 : Addr) (x1 : Int32) : entryFrame m #[(.ref x0), (.int x1)] 2 = mkF m 0 #[.val (.ref x0), .val (.int x1)] [] := by first | (simp [entryFrame, mkF, argsToLocals, Value.category]; done) | rfl
def Q_cfl10 (Z : State) (b : Addr) (y0 : Int32) (h0 : Heap) (n0 : Nat) (F : List (Addr × OObj)) (v : Option Value) (h : Heap) (L : List Loc) : Prop := v = some (.int (0 : Int32)) ∧ L = [] ∧ h = h0
set_option maxRecDepth 65536 in
set_option maxHeartbeats 40000000 in
theorem rm_cfl10 (l : Launch) (Z : State) (a0 : Array Value) (hw : ∀ d ∈ tables_1, d.before a0 Z = true) (ws : List Jvm.Cond) (b : Addr) (y0 : Int32) (h0 : Heap) (n0 : Nat) (F : List (Addr × OObj)) (Z0 : n0 ≤ h0.size) (V0 : OView Z n0 h0 (((b, Sum.inr (.byte, [(.int y0)])) : Addr × OObj) :: F)) :
    MetFree l (⟨"java/lang/StringUTF16", "coderFromArrayLen", "([BI)B"⟩ : MethodName) (head1 (Jvm.Cond.code (⟨"java/lang/StringUTF16", "coderFromArrayLen", "([BI)B"⟩ : MethodName) jdk_52_method_15_code 2 (some .byte) :: ws) ({ frames := 0, cells := 0, slots := 0, locals := 0 } : Room)) (fun a_ U => a_ = #[(.ref b), (.int (1 : Int32))] ∧ Z.Warmed39 U.vm ∧ U.heap = h0) (fun _ _ _ _ _ => True) (fun _ U o U' => ∃ v L, o = .returned v ∧ Q_cfl10 Z b y0 h0 n0 F v U'.heap L ∧ FrameEnd U o U' L ({ frames := 0, cells := 0, slots := 0, locals := 0 } : Room).cells ({ frames := 0, cells := 0, slots := 0, locals := 0 } : Room).slots) := by
  refine MetFree.of_bodySF (plainFor_of_name pn_1) hisR ?_
  intro p e s m args below meth c s₁ Bd hml0 hP hK
  obtain ⟨rfl, hZ, hh⟩ := hP
  have hx := Bd.exec
  have hby := Bd.bytes
  have hlk : meth.locks = false := Bd.notSynchronized
  have hml : c.maxLocals = 2 := hml0
  have hown : s.vm.findClass "java/lang/StringUTF16" = some m.cls := findClass_of_methodNamed Bd.named
  have hnm := (name_of_methodNamed Bd.named Bd.method).1
  have X0 : Stand p l e ({ frames := 0, cells := 0, slots := 0, locals := 0 } : Room) s m #[(.ref b), (.int (1 : Int32))] below meth c s₁ [] 0 0 := Stand.of_body Bd
  have e0 : s₁.heap = h0 := by rw [← hh, Bd.state]; rfl
  have N0 := Fr.nil n0
  show OGets p e below (OLeaves s (Q_cfl10 Z b y0 h0 n0 F ) ({ frames := 0, cells := 0, slots := 0, locals := 0 } : Room).cells ({ frames := 0, cells := 0, slots := 0, locals := 0 } : Room).slots) _
  refine OGets.enter (ef_cfl10 m b (1 : Int32)) ?_
  show OGets p e below _ (s₁.setTop (mkF m 0 #[.val (.ref b), .val (.int (1 : Int32))] []))
  refine OGets.step (fun _ => XS.iloadN X0.here hx rfl (hb hby dj52m15_0) rfl) ?_
  refine OGets.step (fun _ => XS.aloadN X0.here hx rfl (hb hby dj52m15_1) rfl rfl) ?_
  obtain ⟨cl23, Ar23, S23⟩ := V0.arr 0 rfl
  have ln23 : cl23.slots.size.toInt32 = (1 : Int32) := by rw [own_len S23]; rfl
  refine OGets.step (U' := s₁.setTop (mkF m 3 #[.val (.ref b), .val (.int (1 : Int32))] [(.int (1 : Int32)), (.int (1 : Int32))])) (fun t kt => ?_) ?_
  · refine X0.arraylength hx (by rw [e0]; exact Ar23.1) (State.isArrayOf_alike hZ.alike Ar23.2.1) (g := (mkF m 2 #[.val (.ref b), .val (.int (1 : Int32))] [(.ref b), (.int (1 : Int32))])) rfl rfl (hb hby dj52m15_2) _ ?_
    rw [ln23]; exact kt
  refine OGets.step (fun _ => XS.isub X0.here hx rfl (hb hby dj52m15_3) rfl) ?_
  show OGets p e below _ (s₁.setTop (mkF m 4 #[.val (.ref b), .val (.int (1 : Int32))] [(.int (0 : Int32))]))
  refine OGets.step (fun _ => XS.bipush X0.here hx rfl (hb hby dj52m15_4)) ?_
  refine OGets.step (fun _ => XS.iushr X0.here hx rfl (hb hby dj52m15_6) rfl) ?_
  show OGets p e below _ (s₁.setTop (mkF m 7 #[.val (.ref b), .val (.int (1 : Int32))] [(.int (((0 : Int32).toUInt32 >>> ((31 : Int32) &&& 31).toUInt32).toInt32))]))
  rw [show (((0 : Int32).toUInt32 >>> ((31 : Int32) &&& 31).toUInt32).toInt32) = (0 : Int32) from by decide]
  show OGets p e below _ (s₁.setTop (mkF m 7 #[.val (.ref b), .val (.int (1 : Int32))] [(.int (0 : Int32))]))
  refine OGets.step (fun _ => XS.i2b X0.here hx rfl (hb hby dj52m15_7) rfl) ?_
  refine OGets.retN X0 hx hlk (t := .byte) Bd.returns (by simp) (hb hby dj52m15_8) (Nat.le_of_ble_eq_true rfl) (Nat.le_of_ble_eq_true rfl) ?_
  exact ⟨congrArg (fun z => some (Value.int z)) (show _ = (0 : Int32) from by decide), rfl, e0⟩
theorem ef_cfl11 (m : MethodId) (x0 : Addr) (x1 : Int32) : entryFrame m #[(.ref x0), (.int x1)] 2 = mkF m 0 #[.val (.ref x0), .val (.int x1)] [] := by first | (simp [entryFrame, mkF, argsToLocals, Value.category]; done) | rfl
def Q_cfl11 (Z : State) (b : Addr) (y0 : Int32) (y1 : Int32) (h0 : Heap) (n0 : Nat) (F : List (Addr × OObj)) (v : Option Value) (h : Heap) (L : List Loc) : Prop := v = some (.int (1 : Int32)) ∧ L = [] ∧ h = h0
set_option maxRecDepth 65536 in
set_option maxHeartbeats 40000000 in
theorem rm_cfl11 (l : Launch) (Z : State) (a0 : Array Value) (hw : ∀ d ∈ tables_1, d.before a0 Z = true) (ws : List Jvm.Cond) (b : Addr) (y0 : Int32) (y1 : Int32) (h0 : Heap) (n0 : Nat) (F : List (Addr × OObj)) (Z0 : n0 ≤ h0.size) (V0 : OView Z n0 h0 (((b, Sum.inr (.byte, [(.int y0), (.int y1)])) : Addr × OObj) :: F)) :
    MetFree l (⟨"java/lang/StringUTF16", "coderFromArrayLen", "([BI)B"⟩ : MethodName) (head1 (Jvm.Cond.code (⟨"java/lang/StringUTF16", "coderFromArrayLen", "([BI)B"⟩ : MethodName) jdk_52_method_15_code 2 (some .byte) :: ws) ({ frames := 0, cells := 0, slots := 0, locals := 0 } : Room)) (fun a_ U => a_ = #[(.ref b), (.int (1 : Int32))] ∧ Z.Warmed39 U.vm ∧ U.heap = h0) (fun _ _ _ _ _ => True) (fun _ U o U' => ∃ v L, o = .returned v ∧ Q_cfl11 Z b y0 y1 h0 n0 F v U'.heap L ∧ FrameEnd U o U' L ({ frames := 0, cells := 0, slots := 0, locals := 0 } : Room).cells ({ frames := 0, cells := 0, slots := 0, locals := 0 } : Room).slots) := by
  refine MetFree.of_bodySF (plainFor_of_name pn_1) hisR ?_
  intro p e s m args below meth c s₁ Bd hml0 hP hK
  obtain ⟨rfl, hZ, hh⟩ := hP
  have hx := Bd.exec
  have hby := Bd.bytes
  have hlk : meth.locks = false := Bd.notSynchronized
  have hml : c.maxLocals = 2 := hml0
  have hown : s.vm.findClass "java/lang/StringUTF16" = some m.cls := findClass_of_methodNamed Bd.named
  have hnm := (name_of_methodNamed Bd.named Bd.method).1
  have X0 : Stand p l e ({ frames := 0, cells := 0, slots := 0, locals := 0 } : Room) s m #[(.ref b), (.int (1 : Int32))] below meth c s₁ [] 0 0 := Stand.of_body Bd
  have e0 : s₁.heap = h0 := by rw [← hh, Bd.state]; rfl
  have N0 := Fr.nil n0
  show OGets p e below (OLeaves s (Q_cfl11 Z b y0 y1 h0 n0 F ) ({ frames := 0, cells := 0, slots := 0, locals := 0 } : Room).cells ({ frames := 0, cells := 0, slots := 0, locals := 0 } : Room).slots) _
  refine OGets.enter (ef_cfl11 m b (1 : Int32)) ?_
  show OGets p e below _ (s₁.setTop (mkF m 0 #[.val (.ref b), .val (.int (1 : Int32))] []))
  refine OGets.step (fun _ => XS.iloadN X0.here hx rfl (hb hby dj52m15_0) rfl) ?_
  refine OGets.step (fun _ => XS.aloadN X0.here hx rfl (hb hby dj52m15_1) rfl rfl) ?_
  obtain ⟨cl24, Ar24, S24⟩ := V0.arr 0 rfl
  have ln24 : cl24.slots.size.toInt32 = (2 : Int32) := by rw [own_len S24]; rfl
  refine OGets.step (U' := s₁.setTop (mkF m 3 #[.val (.ref b), .val (.int (1 : Int32))] [(.int (2 : Int32)), (.int (1 : Int32))])) (fun t kt => ?_) ?_
  · refine X0.arraylength hx (by rw [e0]; exact Ar24.1) (State.isArrayOf_alike hZ.alike Ar24.2.1) (g := (mkF m 2 #[.val (.ref b), .val (.int (1 : Int32))] [(.ref b), (.int (1 : Int32))])) rfl rfl (hb hby dj52m15_2) _ ?_
    rw [ln24]; exact kt
  refine OGets.step (fun _ => XS.isub X0.here hx rfl (hb hby dj52m15_3) rfl) ?_
  show OGets p e below _ (s₁.setTop (mkF m 4 #[.val (.ref b), .val (.int (1 : Int32))] [(.int (-1 : Int32))]))
  refine OGets.step (fun _ => XS.bipush X0.here hx rfl (hb hby dj52m15_4)) ?_
  refine OGets.step (fun _ => XS.iushr X0.here hx rfl (hb hby dj52m15_6) rfl) ?_
  show OGets p e below _ (s₁.setTop (mkF m 7 #[.val (.ref b), .val (.int (1 : Int32))] [(.int (((-1 : Int32).toUInt32 >>> ((31 : Int32) &&& 31).toUInt32).toInt32))]))
  rw [show (((-1 : Int32).toUInt32 >>> ((31 : Int32) &&& 31).toUInt32).toInt32) = (1 : Int32) from by decide]
  show OGets p e below _ (s₁.setTop (mkF m 7 #[.val (.ref b), .val (.int (1 : Int32))] [(.int (1 : Int32))]))
  refine OGets.step (fun _ => XS.i2b X0.here hx rfl (hb hby dj52m15_7) rfl) ?_
  refine OGets.retN X0 hx hlk (t := .byte) Bd.returns (by simp) (hb hby dj52m15_8) (Nat.le_of_ble_eq_true rfl) (Nat.le_of_ble_eq_true rfl) ?_
  exact ⟨congrArg (fun z => some (Value.int z)) (show _ = (1 : Int32) from by decide), rfl, e0⟩
theorem dj52m21_0 : decode jdk_52_method_21_code 0 = .ok (.iconst 0, 1) := by decide +kernel
theorem dj52m21_1 : decode jdk_52_method_21_code 1 = .ok (.istore 5, 2) := by decide +kernel
theorem dj52m21_3 : decode jdk_52_method_21_code 3 = .ok (.iload 5, 2) := by decide +kernel
theorem dj52m21_5 : decode jdk_52_method_21_code 5 = .ok (.iload 4, 2) := by decide +kernel
theorem dj52m21_7 : decode jdk_52_method_21_code 7 = .ok (.if_icmp .ge 37, 3) := by decide +kernel
theorem dj52m21_10 : decode jdk_52_method_21_code 10 = .ok (.aload_n 0, 1) := by decide +kernel
theorem dj52m21_11 : decode jdk_52_method_21_code 11 = .ok (.iload_n 1, 1) := by decide +kernel
theorem dj52m21_12 : decode jdk_52_method_21_code 12 = .ok (.caload, 1) := by decide +kernel
theorem dj52m21_13 : decode jdk_52_method_21_code 13 = .ok (.istore 6, 2) := by decide +kernel
theorem dj52m21_15 : decode jdk_52_method_21_code 15 = .ok (.iload 6, 2) := by decide +kernel
theorem dj52m21_17 : decode jdk_52_method_21_code 17 = .ok (.sipush 255, 3) := by decide +kernel
theorem dj52m21_20 : decode jdk_52_method_21_code 20 = .ok (.if_icmp .le 6, 3) := by decide +kernel
theorem dj52m21_23 : decode jdk_52_method_21_code 23 = .ok (.iload 5, 2) := by decide +kernel
theorem dj52m21_25 : decode jdk_52_method_21_code 25 = .ok (.ireturn, 1) := by decide +kernel
theorem ef_c5_10 (m : MethodId) (x0 : Addr) (x1 : Int32) (x2 : Addr) (x3 : Int32) (x4 : Int32) : entryFrame m #[(.ref x0), (.int x1), (.ref x2), (.int x3), (.int x4)] 7 = mkF m 0 #[.val (.ref x0), .val (.int x1), .val (.ref x2), .val (.int x3), .val (.int x4), .unset, .unset] [] := by first | (simp [entryFrame, mkF, argsToLocals, Value.category]; done) | rfl
def Q_c5_10 (Z : State) (a : Addr) (b : Addr) (c0 : Int32) (h0 : Heap) (n0 : Nat) (F : List (Addr × OObj)) (v : Option Value) (h : Heap) (L : List Loc) : Prop := v = some (.int (0 : Int32)) ∧ Fr n0 L ∧ OView Z n0 h (((a, Sum.inr (.char, [(.int c0)])) : Addr × OObj) :: ((b, Sum.inr (.byte, [(.int (0 : Int32))])) : Addr × OObj) :: F) ∧ Old Z n0 h
set_option maxRecDepth 65536 in
set_option maxHeartbeats 40000000 in
theorem rm_c5_10 (l : Launch) (Z : State) (a0 : Array Value) (hw : ∀ d ∈ tables_1, d.before a0 Z = true) (ws : List Jvm.Cond) (a : Addr) (b : Addr) (c0 : Int32) (h0 : Heap) (n0 : Nat) (F : List (Addr × OObj)) (Z0 : n0 ≤ h0.size) (u0 : (255 : Int32) < c0) (V0 : OView Z n0 h0 (((a, Sum.inr (.char, [(.int c0)])) : Addr × OObj) :: ((b, Sum.inr (.byte, [(.int (0 : Int32))])) : Addr × OObj) :: F)) (O0 : Old Z n0 h0) :
    MetFree l (⟨"java/lang/StringUTF16", "compress", "([CI[BII)I"⟩ : MethodName) (head1 (Jvm.Cond.code (⟨"java/lang/StringUTF16", "compress", "([CI[BII)I"⟩ : MethodName) jdk_52_method_21_code 7 (some .int) :: ws) ({ frames := 0, cells := 0, slots := 0, locals := 0 } : Room)) (fun a_ U => a_ = #[(.ref a), (.int (0 : Int32)), (.ref b), (.int (0 : Int32)), (.int (1 : Int32))] ∧ Z.Warmed39 U.vm ∧ U.heap = h0) (fun _ _ _ _ _ => True) (fun _ U o U' => ∃ v L, o = .returned v ∧ Q_c5_10 Z a b c0 h0 n0 F v U'.heap L ∧ FrameEnd U o U' L ({ frames := 0, cells := 0, slots := 0, locals := 0 } : Room).cells ({ frames := 0, cells := 0, slots := 0, locals := 0 } : Room).slots) := by
  refine MetFree.of_bodySF (plainFor_of_name pn_1) hisR ?_
  intro p e s m args below meth c s₁ Bd hml0 hP hK
  obtain ⟨rfl, hZ, hh⟩ := hP
  have hx := Bd.exec
  have hby := Bd.bytes
  have hlk : meth.locks = false := Bd.notSynchronized
  have hml : c.maxLocals = 7 := hml0
  have hown : s.vm.findClass "java/lang/StringUTF16" = some m.cls := findClass_of_methodNamed Bd.named
  have hnm := (name_of_methodNamed Bd.named Bd.method).1
  have X0 : Stand p l e ({ frames := 0, cells := 0, slots := 0, locals := 0 } : Room) s m #[(.ref a), (.int (0 : Int32)), (.ref b), (.int (0 : Int32)), (.int (1 : Int32))] below meth c s₁ [] 0 0 := Stand.of_body Bd
  have e0 : s₁.heap = h0 := by rw [← hh, Bd.state]; rfl
  have N0 := Fr.nil n0
  show OGets p e below (OLeaves s (Q_c5_10 Z a b c0 h0 n0 F ) ({ frames := 0, cells := 0, slots := 0, locals := 0 } : Room).cells ({ frames := 0, cells := 0, slots := 0, locals := 0 } : Room).slots) _
  refine OGets.enter (ef_c5_10 m a (0 : Int32) b (0 : Int32) (1 : Int32)) ?_
  show OGets p e below _ (s₁.setTop (mkF m 0 #[.val (.ref a), .val (.int (0 : Int32)), .val (.ref b), .val (.int (0 : Int32)), .val (.int (1 : Int32)), .unset, .unset] []))
  refine OGets.step (fun _ => XS.iconst X0.here hx rfl (hb hby dj52m21_0)) ?_
  refine OGets.step (fun _ => XS.istore X0.here hx rfl (hb hby dj52m21_1) rfl (l' := #[.val (.ref a), .val (.int (0 : Int32)), .val (.ref b), .val (.int (0 : Int32)), .val (.int (1 : Int32)), .val (.int (0 : Int32)), .unset]) rfl) ?_
  refine OGets.step (fun _ => XS.iload X0.here hx rfl (hb hby dj52m21_3) rfl) ?_
  refine OGets.step (fun _ => XS.iload X0.here hx rfl (hb hby dj52m21_5) rfl) ?_
  refine OGets.step (fun _ => XS.icmpNo X0.here hx rfl (hb hby dj52m21_7) rfl (tlt (by decide : (0 : Int32) < (1 : Int32))).2.1) ?_
  refine OGets.step (fun _ => XS.aloadN X0.here hx rfl (hb hby dj52m21_10) rfl rfl) ?_
  show OGets p e below _ (s₁.setTop (mkF m 11 #[.val (.ref a), .val (.int (0 : Int32)), .val (.ref b), .val (.int (0 : Int32)), .val (.int (1 : Int32)), .val (.int (0 : Int32)), .unset] [(.ref a)]))
  refine OGets.step (fun _ => XS.iloadN X0.here hx rfl (hb hby dj52m21_11) rfl) ?_
  obtain ⟨cl26, Ar26, S26⟩ := V0.arr 0 rfl
  refine OGets.step (fun _ => X0.caload hx (j := (0 : Int32)) (v := (.int c0)) (by rw [e0]; exact Ar26.1) (State.isArrayOf_alike hZ.alike Ar26.2.1) Ar26.2.2 (own_inb S26 0 (by decide) (Nat.le_of_ble_eq_true rfl)) (own_get S26 0 (by decide) rfl) (g := (mkF m 12 #[.val (.ref a), .val (.int (0 : Int32)), .val (.ref b), .val (.int (0 : Int32)), .val (.int (1 : Int32)), .val (.int (0 : Int32)), .unset] [(.int (0 : Int32)), (.ref a)])) rfl rfl (hb hby dj52m21_12) _) ?_
  refine OGets.step (fun _ => XS.istore X0.here hx rfl (hb hby dj52m21_13) rfl (l' := #[.val (.ref a), .val (.int (0 : Int32)), .val (.ref b), .val (.int (0 : Int32)), .val (.int (1 : Int32)), .val (.int (0 : Int32)), .val (.int c0)]) rfl) ?_
  refine OGets.step (fun _ => XS.iload X0.here hx rfl (hb hby dj52m21_15) rfl) ?_
  refine OGets.step (fun _ => XS.sipush X0.here hx rfl (hb hby dj52m21_17)) ?_
  refine OGets.step (fun _ => XS.icmpNo X0.here hx rfl (hb hby dj52m21_20) rfl (tlt (u0 : (255 : Int32) < c0)).2.2.2) ?_
  show OGets p e below _ (s₁.setTop (mkF m 23 #[.val (.ref a), .val (.int (0 : Int32)), .val (.ref b), .val (.int (0 : Int32)), .val (.int (1 : Int32)), .val (.int (0 : Int32)), .val (.int c0)] []))
  refine OGets.step (fun _ => XS.iload X0.here hx rfl (hb hby dj52m21_23) rfl) ?_
  refine OGets.retI X0 hx hlk Bd.returns (hb hby dj52m21_25) (Nat.le_of_ble_eq_true rfl) (Nat.le_of_ble_eq_true rfl) ?_
  rw [e0]
  exact ⟨rfl, N0, V0, O0⟩
theorem dj52m16_0 : decode jdk_52_method_16_code 0 = .ok (.iload_n 2, 1) := by decide +kernel
theorem dj52m16_1 : decode jdk_52_method_16_code 1 = .ok (.newarray .byte, 2) := by decide +kernel
theorem dj52m16_3 : decode jdk_52_method_16_code 3 = .ok (.astore_n 3, 1) := by decide +kernel
theorem dj52m16_4 : decode jdk_52_method_16_code 4 = .ok (.aload_n 0, 1) := by decide +kernel
theorem dj52m16_5 : decode jdk_52_method_16_code 5 = .ok (.iload_n 1, 1) := by decide +kernel
theorem dj52m16_6 : decode jdk_52_method_16_code 6 = .ok (.aload_n 3, 1) := by decide +kernel
theorem dj52m16_7 : decode jdk_52_method_16_code 7 = .ok (.iconst 0, 1) := by decide +kernel
theorem dj52m16_8 : decode jdk_52_method_16_code 8 = .ok (.iload_n 2, 1) := by decide +kernel
theorem dj52m16_9 : decode jdk_52_method_16_code 9 = .ok (.invokestatic 115, 3) := by decide +kernel
theorem pd_5 : parseMethodDescriptor "([CI[BII)I" = some ⟨[(.array .char), .int, (.array .byte), .int, .int], some .int⟩ := by decide +kernel
theorem dj52m16_12 : decode jdk_52_method_16_code 12 = .ok (.istore 4, 2) := by decide +kernel
theorem dj52m16_14 : decode jdk_52_method_16_code 14 = .ok (.iload 4, 2) := by decide +kernel
theorem dj52m16_16 : decode jdk_52_method_16_code 16 = .ok (.iload_n 2, 1) := by decide +kernel
theorem dj52m16_17 : decode jdk_52_method_16_code 17 = .ok (.if_icmp .eq 40, 3) := by decide +kernel
theorem dj52m16_20 : decode jdk_52_method_16_code 20 = .ok (.aload_n 0, 1) := by decide +kernel
theorem dj52m16_21 : decode jdk_52_method_16_code 21 = .ok (.iload_n 1, 1) := by decide +kernel
theorem dj52m16_22 : decode jdk_52_method_16_code 22 = .ok (.iload_n 2, 1) := by decide +kernel
theorem dj52m16_23 : decode jdk_52_method_16_code 23 = .ok (.invokestatic 119, 3) := by decide +kernel
theorem pd_6 : parseMethodDescriptor "([CII)[B" = some ⟨[(.array .char), .int, .int], some (.array .byte)⟩ := by decide +kernel
theorem dj52m16_26 : decode jdk_52_method_16_code 26 = .ok (.astore 5, 2) := by decide +kernel
theorem dj52m16_28 : decode jdk_52_method_16_code 28 = .ok (.aload 5, 2) := by decide +kernel
theorem dj52m16_30 : decode jdk_52_method_16_code 30 = .ok (.iload 4, 2) := by decide +kernel
theorem dj52m16_32 : decode jdk_52_method_16_code 32 = .ok (.invokestatic 71, 3) := by decide +kernel
theorem pd_7 : parseMethodDescriptor "([BI)C" = some ⟨[(.array .byte), .int], some .char⟩ := by decide +kernel
theorem dj52m16_35 : decode jdk_52_method_16_code 35 = .ok (.sipush 255, 3) := by decide +kernel
theorem dj52m16_38 : decode jdk_52_method_16_code 38 = .ok (.if_icmp .gt 16, 3) := by decide +kernel
theorem dj52m16_54 : decode jdk_52_method_16_code 54 = .ok (.aload 5, 2) := by decide +kernel
theorem dj52m16_56 : decode jdk_52_method_16_code 56 = .ok (.areturn, 1) := by decide +kernel
theorem ef_c3_10 (m : MethodId) (x0 : Addr) (x1 : Int32) (x2 : Int32) : entryFrame m #[(.ref x0), (.int x1), (.int x2)] 6 = mkF m 0 #[.val (.ref x0), .val (.int x1), .val (.int x2), .unset, .unset, .unset] [] := by first | (simp [entryFrame, mkF, argsToLocals, Value.category]; done) | rfl
def Q_c3_10 (Z : State) (a : Addr) (c0 : Int32) (h0 : Heap) (n0 : Nat) (F : List (Addr × OObj)) (v : Option Value) (h : Heap) (L : List Loc) : Prop := ∃ b : Addr, v = some (.ref b) ∧ Fr n0 L ∧ OView Z n0 h (((b, Sum.inr (.byte, [(.int (hb' c0)), (.int (lb' c0))])) : Addr × OObj) :: ((a, Sum.inr (.char, [(.int c0)])) : Addr × OObj) :: F) ∧ Old Z n0 h
set_option maxRecDepth 65536 in
set_option maxHeartbeats 40000000 in
theorem rm_c3_10 (l : Launch) (Z : State) (a0 : Array Value) (hw : ∀ d ∈ tables_1, d.before a0 Z = true) (ws : List Jvm.Cond) (a : Addr) (c0 : Int32) (h0 : Heap) (n0 : Nat) (F : List (Addr × OObj)) (Z0 : n0 ≤ h0.size) (SA : Sta Z Z.heap "java/lang/StringUTF16" "$assertionsDisabled" "Z" (.int (1 : Int32))) (SH : Sta Z Z.heap "java/lang/StringUTF16" "HI_BYTE_SHIFT" "I" (.int (0 : Int32))) (SL : Sta Z Z.heap "java/lang/StringUTF16" "LO_BYTE_SHIFT" "I" (.int (8 : Int32))) (u0 : (255 : Int32) < c0) (w0 : Ch c0) (V0 : OView Z n0 h0 (((a, Sum.inr (.char, [(.int c0)])) : Addr × OObj) :: F)) (O0 : Old Z n0 h0) :
    MetFree l (⟨"java/lang/StringUTF16", "compress", "([CII)[B"⟩ : MethodName) (head1 (Jvm.Cond.code (⟨"java/lang/StringUTF16", "compress", "([CII)[B"⟩ : MethodName) jdk_52_method_16_code 6 (some (.array .byte)) :: ws) ({ frames := 3, cells := 2, slots := 3, locals := 40 } : Room)) (fun a_ U => a_ = #[(.ref a), (.int (0 : Int32)), (.int (1 : Int32))] ∧ Z.Warmed39 U.vm ∧ U.heap = h0) (fun _ _ _ _ _ => True) (fun _ U o U' => ∃ v L, o = .returned v ∧ Q_c3_10 Z a c0 h0 n0 F v U'.heap L ∧ FrameEnd U o U' L ({ frames := 3, cells := 2, slots := 3, locals := 40 } : Room).cells ({ frames := 3, cells := 2, slots := 3, locals := 40 } : Room).slots) := by
  refine MetFree.of_bodySF (plainFor_of_name pn_1) hisR ?_
  intro p e s m args below meth c s₁ Bd hml0 hP hK
  obtain ⟨rfl, hZ, hh⟩ := hP
  have hx := Bd.exec
  have hby := Bd.bytes
  have hlk : meth.locks = false := Bd.notSynchronized
  have hml : c.maxLocals = 6 := hml0
  have hown : s.vm.findClass "java/lang/StringUTF16" = some m.cls := findClass_of_methodNamed Bd.named
  have hnm := (name_of_methodNamed Bd.named Bd.method).1
  have X0 : Stand p l e ({ frames := 3, cells := 2, slots := 3, locals := 40 } : Room) s m #[(.ref a), (.int (0 : Int32)), (.int (1 : Int32))] below meth c s₁ [] 0 0 := Stand.of_body Bd
  have e0 : s₁.heap = h0 := by rw [← hh, Bd.state]; rfl
  have N0 := Fr.nil n0
  show OGets p e below (OLeaves s (Q_c3_10 Z a c0 h0 n0 F ) ({ frames := 3, cells := 2, slots := 3, locals := 40 } : Room).cells ({ frames := 3, cells := 2, slots := 3, locals := 40 } : Room).slots) _
  refine OGets.enter (ef_c3_10 m a (0 : Int32) (1 : Int32)) ?_
  show OGets p e below _ (s₁.setTop (mkF m 0 #[.val (.ref a), .val (.int (0 : Int32)), .val (.int (1 : Int32)), .unset, .unset, .unset] []))
  refine OGets.step (fun _ => XS.iloadN X0.here hx rfl (hb hby dj52m16_0) rfl) ?_
  obtain ⟨T28, h28, k28, X28, e28, E28, A28, st28⟩ := newP X0 hx hZ (hw _ (List.mem_of_getElem? (i := 21) rfl)) e0 (g := (mkF m 1 #[.val (.ref a), .val (.int (0 : Int32)), .val (.int (1 : Int32)), .unset, .unset, .unset] [(.int (1 : Int32))])) rfl (hb hby dj52m16_1) rfl (by decide) (cap := 1) (by decide) (by decide) (by decide) (by decide)
  have V28' := V0.newArr Z0 E28 A28 1 rfl
  have Z28 : n0 ≤ h28.size := Nat.le_trans Z0 E28.1
  obtain ⟨b28, g28⟩ : ∃ z, z = h0.size := ⟨_, rfl⟩
  rw [← g28] at V28' st28
  have V28 : OView Z n0 h28 (((b28, Sum.inr (.byte, [(.int (0 : Int32))])) : Addr × OObj) :: ((a, Sum.inr (.char, [(.int c0)])) : Addr × OObj) :: F) := V28'
  have O28 := O0.ext E28
  refine OGets.step st28 ?_
  refine OGets.step (fun _ => XS.astoreN X28.here hx rfl (hb hby dj52m16_3) rfl rfl (l' := #[.val (.ref a), .val (.int (0 : Int32)), .val (.int (1 : Int32)), .val (.ref b28), .unset, .unset]) rfl) ?_
  refine OGets.step (fun _ => XS.aloadN X28.here hx rfl (hb hby dj52m16_4) rfl rfl) ?_
  refine OGets.step (fun _ => XS.iloadN X28.here hx rfl (hb hby dj52m16_5) rfl) ?_
  refine OGets.step (fun _ => XS.aloadN X28.here hx rfl (hb hby dj52m16_6) rfl rfl) ?_
  refine OGets.step (fun _ => XS.iconst X28.here hx rfl (hb hby dj52m16_7)) ?_
  show OGets p e below _ (T28.setTop (mkF m 8 #[.val (.ref a), .val (.int (0 : Int32)), .val (.int (1 : Int32)), .val (.ref b28), .unset, .unset] [(.int (0 : Int32)), (.ref b28), (.int (0 : Int32)), (.ref a)]))
  refine OGets.step (fun _ => XS.iloadN X28.here hx rfl (hb hby dj52m16_8) rfl) ?_
  have V29_ : OView Z _ h28 (((a, Sum.inr (.char, [(.int c0)])) : Addr × OObj) :: ((b28, Sum.inr (.byte, [(.int (0 : Int32))])) : Addr × OObj) :: F) := (V28.bring 1 rfl)
  obtain ⟨_, _, ⟨T29, L29, k29, n29⟩, -, X29, ⟨Lc29, hQ29, l29, y29, z29⟩, st29⟩ := Jvm.LawKit.callS X28 hx (y := (⟨"java/lang/StringUTF16", "compress", "([CI[BII)I"⟩ : MethodName)) hown (mvT hZ (hw _ (List.mem_of_getElem? (i := 49) rfl))) (mvT hZ (hw _ (List.mem_of_getElem? (i := 50) rfl))) (mvT hZ (hw _ (List.mem_of_getElem? (i := 47) rfl))) (mvT hZ (hw _ (List.mem_of_getElem? (i := 51) rfl))) (by decide) (backOf (W := 0) (rm_c5_10 l Z a0 hw [] a b28 c0 h28 n0 _ Z28 u0 V29_ O28) hZ (hw _ (List.mem_of_getElem? (i := 51) rfl)) (hw _ (List.mem_of_getElem? (i := 47) rfl)) (by decide) (by decide)) (g := (mkF m 9 #[.val (.ref a), .val (.int (0 : Int32)), .val (.int (1 : Int32)), .val (.ref b28), .unset, .unset] [(.int (1 : Int32)), (.int (0 : Int32)), (.ref b28), (.int (0 : Int32)), (.ref a)])) rfl (by rw [hml]; rfl) (argsL := [(.ref a), (.int (0 : Int32)), (.ref b28), (.int (0 : Int32)), (.int (1 : Int32))]) (rest := []) (lenOf pd_5 rfl) rfl (by show 2 * 0 + _ ≤ _; exact Nat.le_of_eq rfl) (hb hby dj52m16_9) (fun _ _ => ⟨rfl, e28, Nat.le_of_ble_eq_true rfl, Nat.le_of_ble_eq_true rfl⟩)
  dsimp only [Pt.U, Pt.locs, Pt.cells, Pt.slots] at X29 l29 y29 z29 st29 hQ29
  rw [l29, y29, z29] at X29
  obtain ⟨rfl, N29q, V29, O29q⟩ := hQ29
  have N29 := Fr.app N0 N29q
  have V29v : OView Z n0 T29.heap (((a, Sum.inr (.char, [(.int c0)])) : Addr × OObj) :: ((b28, Sum.inr (.byte, [(.int (0 : Int32))])) : Addr × OObj) :: F) := V29
  have Z29 : n0 ≤ T29.heap.size := V29v.big 0 rfl
  refine OGets.step st29 ?_
  refine OGets.step (fun _ => XS.istore X29.here hx rfl (hb hby dj52m16_12) rfl (l' := #[.val (.ref a), .val (.int (0 : Int32)), .val (.int (1 : Int32)), .val (.ref b28), .val (.int (0 : Int32)), .unset]) rfl) ?_
  refine OGets.step (fun _ => XS.iload X29.here hx rfl (hb hby dj52m16_14) rfl) ?_
  refine OGets.step (fun _ => XS.iloadN X29.here hx rfl (hb hby dj52m16_16) rfl) ?_
  refine OGets.step (fun _ => XS.icmpNo X29.here hx rfl (hb hby dj52m16_17) rfl (feq (by decide : ¬ ((0 : Int32) = (1 : Int32)))).1) ?_
  refine OGets.step (fun _ => XS.aloadN X29.here hx rfl (hb hby dj52m16_20) rfl rfl) ?_
  show OGets p e below _ (T29.setTop (mkF m 21 #[.val (.ref a), .val (.int (0 : Int32)), .val (.int (1 : Int32)), .val (.ref b28), .val (.int (0 : Int32)), .unset] [(.ref a)]))
  refine OGets.step (fun _ => XS.iloadN X29.here hx rfl (hb hby dj52m16_21) rfl) ?_
  refine OGets.step (fun _ => XS.iloadN X29.here hx rfl (hb hby dj52m16_22) rfl) ?_
  obtain ⟨_, _, ⟨T31, L31, k31, n31⟩, -, X31, ⟨Lc31, hQ31, l31, y31, z31⟩, st31⟩ := Jvm.LawKit.callS X29 hx (y := (⟨"java/lang/StringUTF16", "toBytes", "([CII)[B"⟩ : MethodName)) hown (mvT hZ (hw _ (List.mem_of_getElem? (i := 55) rfl))) (mvT hZ (hw _ (List.mem_of_getElem? (i := 56) rfl))) (mvT hZ (hw _ (List.mem_of_getElem? (i := 47) rfl))) (mvT hZ (hw _ (List.mem_of_getElem? (i := 57) rfl))) (by decide) (backOf (W := 0) (rm_tob1 l Z a0 hw [] a c0 T29.heap n0 _ Z29 SA SH SL V29v O29q) hZ (hw _ (List.mem_of_getElem? (i := 57) rfl)) (hw _ (List.mem_of_getElem? (i := 47) rfl)) (by decide) (by decide)) (g := (mkF m 23 #[.val (.ref a), .val (.int (0 : Int32)), .val (.int (1 : Int32)), .val (.ref b28), .val (.int (0 : Int32)), .unset] [(.int (1 : Int32)), (.int (0 : Int32)), (.ref a)])) rfl (by rw [hml]; rfl) (argsL := [(.ref a), (.int (0 : Int32)), (.int (1 : Int32))]) (rest := []) (lenOf pd_6 rfl) rfl (by show 2 * 0 + _ ≤ _; exact Nat.le_of_eq rfl) (hb hby dj52m16_23) (fun _ _ => ⟨rfl, rfl, Nat.le_of_ble_eq_true rfl, Nat.le_of_ble_eq_true rfl⟩)
  dsimp only [Pt.U, Pt.locs, Pt.cells, Pt.slots] at X31 l31 y31 z31 st31 hQ31
  rw [l31, y31, z31] at X31
  obtain ⟨b31, rfl, N31q, V31, O31q⟩ := hQ31
  have N31 := Fr.app N29 N31q
  have V31v : OView Z n0 T31.heap (((b31, Sum.inr (.byte, [(.int (hb' c0)), (.int (lb' c0))])) : Addr × OObj) :: ((a, Sum.inr (.char, [(.int c0)])) : Addr × OObj) :: ((b28, Sum.inr (.byte, [(.int (0 : Int32))])) : Addr × OObj) :: F) := V31
  have Z31 : n0 ≤ T31.heap.size := V31v.big 0 rfl
  refine OGets.step st31 ?_
  refine OGets.step (fun _ => XS.astore X31.here hx rfl (hb hby dj52m16_26) rfl rfl (l' := #[.val (.ref a), .val (.int (0 : Int32)), .val (.int (1 : Int32)), .val (.ref b28), .val (.int (0 : Int32)), .val (.ref b31)]) rfl) ?_
  refine OGets.step (fun _ => XS.aload X31.here hx rfl (hb hby dj52m16_28) rfl rfl) ?_
  refine OGets.step (fun _ => XS.iload X31.here hx rfl (hb hby dj52m16_30) rfl) ?_
  obtain ⟨_, _, ⟨T32, L32, k32, n32⟩, -, X32, ⟨Lc32, hQ32, l32, y32, z32⟩, st32⟩ := Jvm.LawKit.callS X31 hx (y := (⟨"java/lang/StringUTF16", "getChar", "([BI)C"⟩ : MethodName)) hown (mvT hZ (hw _ (List.mem_of_getElem? (i := 71) rfl))) (mvT hZ (hw _ (List.mem_of_getElem? (i := 72) rfl))) (mvT hZ (hw _ (List.mem_of_getElem? (i := 47) rfl))) (mvT hZ (hw _ (List.mem_of_getElem? (i := 73) rfl))) (by decide) (backOf (W := 0) (rm_gch10 l Z a0 hw [] b31 (hb' c0) (lb' c0) T31.heap n0 _ Z31 SA SH SL V31v O31q) hZ (hw _ (List.mem_of_getElem? (i := 73) rfl)) (hw _ (List.mem_of_getElem? (i := 47) rfl)) (by decide) (by decide)) (g := (mkF m 32 #[.val (.ref a), .val (.int (0 : Int32)), .val (.int (1 : Int32)), .val (.ref b28), .val (.int (0 : Int32)), .val (.ref b31)] [(.int (0 : Int32)), (.ref b31)])) rfl (by rw [hml]; rfl) (argsL := [(.ref b31), (.int (0 : Int32))]) (rest := []) (lenOf pd_7 rfl) rfl (by show 2 * 0 + _ ≤ _; exact Nat.le_of_eq rfl) (hb hby dj52m16_32) (fun _ _ => ⟨rfl, rfl, Nat.le_of_ble_eq_true rfl, Nat.le_of_ble_eq_true rfl⟩)
  dsimp only [Pt.U, Pt.locs, Pt.cells, Pt.slots] at X32 l32 y32 z32 st32 hQ32
  rw [l32, y32, z32] at X32
  obtain ⟨rfl, rfl, e32⟩ := hQ32
  have N32 := Fr.app N31 (Fr.nil n0)
  refine OGets.step st32 ?_
  refine OGets.step (fun _ => XS.sipush X32.here hx rfl (hb hby dj52m16_35)) ?_
  refine OGets.step (fun _ => XS.icmpYes X32.here hx rfl (pc0 := 38) (pc' := 54) rfl (hb hby dj52m16_38) rfl (tlt (own_gc w0 u0 : (255 : Int32) < (gcv (hb' c0) (lb' c0)))).2.2.1 (by decide) (by decide)) ?_
  refine OGets.step (fun _ => XS.aload X32.here hx rfl (hb hby dj52m16_54) rfl rfl) ?_
  refine OGets.retA X32 hx hlk (t := (.array .byte)) Bd.returns rfl rfl rfl (hb hby dj52m16_56) (Nat.le_of_ble_eq_true rfl) (Nat.le_of_ble_eq_true rfl) ?_
  have Vd34 : OView Z _ T31.heap (((b31, Sum.inr (.byte, [(.int (hb' c0)), (.int (lb' c0))])) : Addr × OObj) :: ((a, Sum.inr (.char, [(.int c0)])) : Addr × OObj) :: F) := (V31v.bring 2 rfl).tail
  rw [e32]
  exact ⟨b31, rfl, N32, Vd34, O31q⟩
theorem pn_8 : plainName "java/lang/String" = true := by first | (simp [plainName, overriddenIn]; done) | decide +kernel
theorem dj42m149_0 : decode jdk_42_method_149_code 0 = .ok (.aload_n 0, 1) := by decide +kernel
theorem dj42m149_1 : decode jdk_42_method_149_code 1 = .ok (.invokespecial 1, 3) := by decide +kernel
theorem dj42m149_4 : decode jdk_42_method_149_code 4 = .ok (.iload_n 3, 1) := by decide +kernel
theorem dj42m149_5 : decode jdk_42_method_149_code 5 = .ok (.ifCond .ne 22, 3) := by decide +kernel
theorem dj42m149_27 : decode jdk_42_method_149_code 27 = .ok (.getstatic 38, 3) := by decide +kernel
theorem dj42m149_30 : decode jdk_42_method_149_code 30 = .ok (.ifCond .eq 28, 3) := by decide +kernel
theorem dj42m149_33 : decode jdk_42_method_149_code 33 = .ok (.aload_n 1, 1) := by decide +kernel
theorem dj42m149_34 : decode jdk_42_method_149_code 34 = .ok (.iload_n 2, 1) := by decide +kernel
theorem dj42m149_35 : decode jdk_42_method_149_code 35 = .ok (.iload_n 3, 1) := by decide +kernel
theorem dj42m149_36 : decode jdk_42_method_149_code 36 = .ok (.invokestatic 177, 3) := by decide +kernel
theorem dj42m149_39 : decode jdk_42_method_149_code 39 = .ok (.astore 5, 2) := by decide +kernel
theorem dj42m149_41 : decode jdk_42_method_149_code 41 = .ok (.aload_n 0, 1) := by decide +kernel
theorem dj42m149_42 : decode jdk_42_method_149_code 42 = .ok (.aload 5, 2) := by decide +kernel
theorem dj42m149_44 : decode jdk_42_method_149_code 44 = .ok (.iload_n 3, 1) := by decide +kernel
theorem dj42m149_45 : decode jdk_42_method_149_code 45 = .ok (.invokestatic 47, 3) := by decide +kernel
theorem pd_9 : parseMethodDescriptor "([BI)B" = some ⟨[(.array .byte), .int], some .byte⟩ := by decide +kernel
theorem dj42m149_48 : decode jdk_42_method_149_code 48 = .ok (.putfield 15, 3) := by decide +kernel
theorem dj42m149_51 : decode jdk_42_method_149_code 51 = .ok (.aload_n 0, 1) := by decide +kernel
theorem dj42m149_52 : decode jdk_42_method_149_code 52 = .ok (.aload 5, 2) := by decide +kernel
theorem dj42m149_54 : decode jdk_42_method_149_code 54 = .ok (.putfield 9, 3) := by decide +kernel
theorem dj42m149_57 : decode jdk_42_method_149_code 57 = .ok (.return_, 1) := by decide +kernel
theorem ef_i4_10 (m : MethodId) (x0 : Addr) (x1 : Addr) (x2 : Int32) (x3 : Int32) : entryFrame m #[(.ref x0), (.ref x1), (.int x2), (.int x3), .null] 6 = mkF m 0 #[.val (.ref x0), .val (.ref x1), .val (.int x2), .val (.int x3), .val .null, .unset] [] := by first | (simp [entryFrame, mkF, argsToLocals, Value.category]; done) | rfl
def Q_i4_10 (Z : State) (a : Addr) (q : Addr) (G : Int32) (c0 : Int32) (h0 : Heap) (n0 : Nat) (F : List (Addr × OObj)) (v : Option Value) (h : Heap) (L : List Loc) : Prop := v = none ∧ Fr n0 L ∧ ∃ b : Addr, OView Z n0 h (((a, Sum.inl ("java/lang/String", ns_String, [(.ref b), (.int (1 : Int32))])) : Addr × OObj) :: ((b, Sum.inr (.byte, [(.int (hb' c0)), (.int (lb' c0))])) : Addr × OObj) :: ((q, Sum.inr (.char, [(.int c0)])) : Addr × OObj) :: F) ∧ Old Z n0 h
set_option maxRecDepth 65536 in
set_option maxHeartbeats 40000000 in
theorem rm_i4_10 (l : Launch) (Z : State) (a0 : Array Value) (hw : ∀ d ∈ tables_1, d.before a0 Z = true) (ws : List Jvm.Cond) (a : Addr) (q : Addr) (G : Int32) (c0 : Int32) (h0 : Heap) (n0 : Nat) (F : List (Addr × OObj)) (Z0 : n0 ≤ h0.size) (S0 : Sta Z Z.heap "java/lang/String" "COMPACT_STRINGS" "Z" (.int G)) (hG : ¬ G = (0 : Int32)) (SA : Sta Z Z.heap "java/lang/StringUTF16" "$assertionsDisabled" "Z" (.int (1 : Int32))) (SH : Sta Z Z.heap "java/lang/StringUTF16" "HI_BYTE_SHIFT" "I" (.int (0 : Int32))) (SL : Sta Z Z.heap "java/lang/StringUTF16" "LO_BYTE_SHIFT" "I" (.int (8 : Int32))) (u0 : (255 : Int32) < c0) (w0 : Ch c0) (V0 : OView Z n0 h0 (((a, Sum.inl ("java/lang/String", ns_String, [.null, (.int (0 : Int32))])) : Addr × OObj) :: ((q, Sum.inr (.char, [(.int c0)])) : Addr × OObj) :: F)) (O0 : Old Z n0 h0) :
    MetFree l (⟨"java/lang/String", "<init>", "([CIILjava/lang/Void;)V"⟩ : MethodName) (head1 (Jvm.Cond.code (⟨"java/lang/String", "<init>", "([CIILjava/lang/Void;)V"⟩ : MethodName) jdk_42_method_149_code 6 none :: ws) ({ frames := 4, cells := 2, slots := 3, locals := 57 } : Room)) (fun a_ U => a_ = #[(.ref a), (.ref q), (.int (0 : Int32)), (.int (1 : Int32)), .null] ∧ Z.Warmed39 U.vm ∧ U.heap = h0) (fun _ _ _ _ _ => True) (fun _ U o U' => ∃ v L, o = .returned v ∧ Q_i4_10 Z a q G c0 h0 n0 F v U'.heap L ∧ FrameEnd U o U' L ({ frames := 4, cells := 2, slots := 3, locals := 57 } : Room).cells ({ frames := 4, cells := 2, slots := 3, locals := 57 } : Room).slots) := by
  refine MetFree.of_bodySF (plainFor_of_name pn_8) hisR ?_
  intro p e s m args below meth c s₁ Bd hml0 hP hK
  obtain ⟨rfl, hZ, hh⟩ := hP
  have hx := Bd.exec
  have hby := Bd.bytes
  have hlk : meth.locks = false := Bd.notSynchronized
  have hml : c.maxLocals = 6 := hml0
  have hown : s.vm.findClass "java/lang/String" = some m.cls := findClass_of_methodNamed Bd.named
  have hnm := (name_of_methodNamed Bd.named Bd.method).1
  have X0 : Stand p l e ({ frames := 4, cells := 2, slots := 3, locals := 57 } : Room) s m #[(.ref a), (.ref q), (.int (0 : Int32)), (.int (1 : Int32)), .null] below meth c s₁ [] 0 0 := Stand.of_body Bd
  have e0 : s₁.heap = h0 := by rw [← hh, Bd.state]; rfl
  have N0 := Fr.nil n0
  show OGets p e below (OLeaves s (Q_i4_10 Z a q G c0 h0 n0 F ) ({ frames := 4, cells := 2, slots := 3, locals := 57 } : Room).cells ({ frames := 4, cells := 2, slots := 3, locals := 57 } : Room).slots) _
  refine OGets.enter (ef_i4_10 m a q (0 : Int32) (1 : Int32)) ?_
  show OGets p e below _ (s₁.setTop (mkF m 0 #[.val (.ref a), .val (.ref q), .val (.int (0 : Int32)), .val (.int (1 : Int32)), .val .null, .unset] []))
  refine OGets.step (fun _ => XS.aloadN X0.here hx rfl (hb hby dj42m149_0) rfl rfl) ?_
  obtain ⟨T35, X35, e35, st35⟩ := initO X0 hx hZ hown (hw _ (List.mem_of_getElem? (i := 17) rfl)) (hw _ (List.mem_of_getElem? (i := 18) rfl)) (hw _ (List.mem_of_getElem? (i := 19) rfl)) e0 (g := (mkF m 1 #[.val (.ref a), .val (.ref q), .val (.int (0 : Int32)), .val (.int (1 : Int32)), .val .null, .unset] [(.ref a)])) rfl (by rw [hml]; rfl) rfl (hb hby dj42m149_1) (by decide) (W := 0) (by show 2 * 0 + _ ≤ _; exact Nat.le_of_eq rfl) (by decide)
  refine OGets.step st35 ?_
  refine OGets.step (fun _ => XS.iloadN X35.here hx rfl (hb hby dj42m149_4) rfl) ?_
  refine OGets.step (fun _ => XS.ifYes X35.here hx rfl (pc0 := 5) (pc' := 27) rfl (hb hby dj42m149_5) rfl ((if0 _ _).trans (feq (by decide : ¬ ((1 : Int32) = (0 : Int32)))).2) (by decide) (by decide)) ?_
  obtain ⟨T37, X37, e37, st37⟩ := getS2 X35 hx hZ hown (host := "") (Or.inl (hw _ (List.mem_of_getElem? (i := 39) rfl))) Via.refl e35 (S0.ext O0.2) (g := (mkF m 27 #[.val (.ref a), .val (.ref q), .val (.int (0 : Int32)), .val (.int (1 : Int32)), .val .null, .unset] [])) rfl (hb hby dj42m149_27)
  refine OGets.step st37 ?_
  refine OGets.step (fun _ => XS.ifNo X37.here hx rfl (hb hby dj42m149_30) rfl ((if0 _ _).trans (feq (hG : ¬ (G = (0 : Int32)))).1)) ?_
  refine OGets.step (fun _ => XS.aloadN X37.here hx rfl (hb hby dj42m149_33) rfl rfl) ?_
  refine OGets.step (fun _ => XS.iloadN X37.here hx rfl (hb hby dj42m149_34) rfl) ?_
  refine OGets.step (fun _ => XS.iloadN X37.here hx rfl (hb hby dj42m149_35) rfl) ?_
  have V39_ : OView Z _ h0 (((q, Sum.inr (.char, [(.int c0)])) : Addr × OObj) :: ((a, Sum.inl ("java/lang/String", ns_String, [.null, (.int (0 : Int32))])) : Addr × OObj) :: F) := (V0.bring 1 rfl)
  obtain ⟨_, _, ⟨T39, L39, k39, n39⟩, -, X39, ⟨Lc39, hQ39, l39, y39, z39⟩, st39⟩ := Jvm.LawKit.callS X37 hx (y := (⟨"java/lang/StringUTF16", "compress", "([CII)[B"⟩ : MethodName)) hown (mvT hZ (hw _ (List.mem_of_getElem? (i := 45) rfl))) (mvT hZ (hw _ (List.mem_of_getElem? (i := 46) rfl))) (mvT hZ (hw _ (List.mem_of_getElem? (i := 47) rfl))) (mvT hZ (hw _ (List.mem_of_getElem? (i := 48) rfl))) (by decide) (backOf (W := 0) (rm_c3_10 l Z a0 hw [] q c0 h0 n0 _ Z0 SA SH SL u0 w0 V39_ O0) hZ (hw _ (List.mem_of_getElem? (i := 48) rfl)) (hw _ (List.mem_of_getElem? (i := 47) rfl)) (by decide) (by decide)) (g := (mkF m 36 #[.val (.ref a), .val (.ref q), .val (.int (0 : Int32)), .val (.int (1 : Int32)), .val .null, .unset] [(.int (1 : Int32)), (.int (0 : Int32)), (.ref q)])) rfl (by rw [hml]; rfl) (argsL := [(.ref q), (.int (0 : Int32)), (.int (1 : Int32))]) (rest := []) (lenOf pd_6 rfl) rfl (by show 2 * 0 + _ ≤ _; exact Nat.le_of_eq rfl) (hb hby dj42m149_36) (fun _ _ => ⟨rfl, e37, Nat.le_of_ble_eq_true rfl, Nat.le_of_ble_eq_true rfl⟩)
  dsimp only [Pt.U, Pt.locs, Pt.cells, Pt.slots] at X39 l39 y39 z39 st39 hQ39
  rw [l39, y39, z39] at X39
  obtain ⟨b39, rfl, N39q, V39, O39q⟩ := hQ39
  have N39 := Fr.app N0 N39q
  have V39v : OView Z n0 T39.heap (((b39, Sum.inr (.byte, [(.int (hb' c0)), (.int (lb' c0))])) : Addr × OObj) :: ((q, Sum.inr (.char, [(.int c0)])) : Addr × OObj) :: ((a, Sum.inl ("java/lang/String", ns_String, [.null, (.int (0 : Int32))])) : Addr × OObj) :: F) := V39
  have Z39 : n0 ≤ T39.heap.size := V39v.big 0 rfl
  refine OGets.step st39 ?_
  refine OGets.step (fun _ => XS.astore X39.here hx rfl (hb hby dj42m149_39) rfl rfl (l' := #[.val (.ref a), .val (.ref q), .val (.int (0 : Int32)), .val (.int (1 : Int32)), .val .null, .val (.ref b39)]) rfl) ?_
  refine OGets.step (fun _ => XS.aloadN X39.here hx rfl (hb hby dj42m149_41) rfl rfl) ?_
  refine OGets.step (fun _ => XS.aload X39.here hx rfl (hb hby dj42m149_42) rfl rfl) ?_
  refine OGets.step (fun _ => XS.iloadN X39.here hx rfl (hb hby dj42m149_44) rfl) ?_
  obtain ⟨_, _, ⟨T40, L40, k40, n40⟩, -, X40, ⟨Lc40, hQ40, l40, y40, z40⟩, st40⟩ := Jvm.LawKit.callS X39 hx (y := (⟨"java/lang/StringUTF16", "coderFromArrayLen", "([BI)B"⟩ : MethodName)) hown (mvT hZ (hw _ (List.mem_of_getElem? (i := 52) rfl))) (mvT hZ (hw _ (List.mem_of_getElem? (i := 53) rfl))) (mvT hZ (hw _ (List.mem_of_getElem? (i := 47) rfl))) (mvT hZ (hw _ (List.mem_of_getElem? (i := 54) rfl))) (by decide) (backOf (W := 1) (rm_cfl11 l Z a0 hw [] b39 (hb' c0) (lb' c0) T39.heap n0 _ Z39  V39v) hZ (hw _ (List.mem_of_getElem? (i := 54) rfl)) (hw _ (List.mem_of_getElem? (i := 47) rfl)) (by decide) (by decide)) (g := (mkF m 45 #[.val (.ref a), .val (.ref q), .val (.int (0 : Int32)), .val (.int (1 : Int32)), .val .null, .val (.ref b39)] [(.int (1 : Int32)), (.ref b39), (.ref a)])) rfl (by rw [hml]; rfl) (argsL := [(.ref b39), (.int (1 : Int32))]) (rest := [(.ref a)]) (lenOf pd_9 rfl) rfl (by show 2 * 0 + _ ≤ _; exact Nat.le_of_eq rfl) (hb hby dj42m149_45) (fun _ _ => ⟨rfl, rfl, Nat.le_of_ble_eq_true rfl, Nat.le_of_ble_eq_true rfl⟩)
  dsimp only [Pt.U, Pt.locs, Pt.cells, Pt.slots] at X40 l40 y40 z40 st40 hQ40
  rw [l40, y40, z40] at X40
  obtain ⟨rfl, rfl, e40⟩ := hQ40
  have N40 := Fr.app N39 (Fr.nil n0)
  refine OGets.step st40 ?_
  obtain ⟨T41, h41, X41, e41, W41, st41⟩ := putFN X40 hx hZ hown (hw _ (List.mem_of_getElem? (i := 27) rfl)) Via.refl e40 (V39v.fld 2 rfl 1 rfl rfl) (V39v.exa 2 rfl) (Or.inr ⟨(hw _ (List.mem_of_getElem? (i := 23) rfl)), rfl, hnm⟩) (hw _ (List.mem_of_getElem? (i := 7) rfl)) (ty := .byte) (v' := (.int (1 : Int32))) (by decide) rfl (by decide) (g := (mkF m 48 #[.val (.ref a), .val (.ref q), .val (.int (0 : Int32)), .val (.int (1 : Int32)), .val .null, .val (.ref b39)] [(.int (1 : Int32)), (.ref a)])) rfl rfl (hb hby dj42m149_48)
  have V41 : OView Z n0 h41 (((b39, Sum.inr (.byte, [(.int (hb' c0)), (.int (lb' c0))])) : Addr × OObj) :: ((q, Sum.inr (.char, [(.int c0)])) : Addr × OObj) :: ((a, Sum.inl ("java/lang/String", ns_String, [.null, (.int (1 : Int32))])) : Addr × OObj) :: F) := V39v.putF 2 rfl 1 rfl W41
  have N41 := Fr.snoc X41 N40 (V39v.old 2 rfl)
  have Z41 : n0 ≤ h41.size := by rw [W41.size]; exact Z39
  have O41 := O39q.wr W41 (V39v.old 2 rfl)
  refine OGets.step st41 ?_
  refine OGets.step (fun _ => XS.aloadN X41.here hx rfl (hb hby dj42m149_51) rfl rfl) ?_
  refine OGets.step (fun _ => XS.aload X41.here hx rfl (hb hby dj42m149_52) rfl rfl) ?_
  obtain ⟨T42, h42, X42, e42, W42, st42⟩ := putF X41 hx hZ hown (host := "") (Or.inl (hw _ (List.mem_of_getElem? (i := 26) rfl))) Via.refl e41 (V41.fld 2 rfl 0 rfl rfl) (V41.exa 2 rfl) (Or.inr ⟨(hw _ (List.mem_of_getElem? (i := 22) rfl)), rfl, hnm⟩) (hw _ (List.mem_of_getElem? (i := 7) rfl)) (ty := (.array .byte)) (by decide) rfl rfl (g := (mkF m 54 #[.val (.ref a), .val (.ref q), .val (.int (0 : Int32)), .val (.int (1 : Int32)), .val .null, .val (.ref b39)] [(.ref b39), (.ref a)])) rfl rfl (hb hby dj42m149_54)
  have V42 : OView Z n0 h42 (((b39, Sum.inr (.byte, [(.int (hb' c0)), (.int (lb' c0))])) : Addr × OObj) :: ((q, Sum.inr (.char, [(.int c0)])) : Addr × OObj) :: ((a, Sum.inl ("java/lang/String", ns_String, [(.ref b39), (.int (1 : Int32))])) : Addr × OObj) :: F) := V41.putF 2 rfl 0 rfl W42
  have N42 := Fr.snoc X42 N41 (V41.old 2 rfl)
  have Z42 : n0 ≤ h42.size := by rw [W42.size]; exact Z41
  have O42 := O41.wr W42 (V41.old 2 rfl)
  refine OGets.step st42 ?_
  refine OGets.retV X42 hx hlk Bd.returns (hb hby dj42m149_57) (Nat.le_of_ble_eq_true rfl) (Nat.le_of_ble_eq_true rfl) ?_
  have Vp43 : OView Z _ h42 (((a, Sum.inl ("java/lang/String", ns_String, [(.ref b39), (.int (1 : Int32))])) : Addr × OObj) :: ((b39, Sum.inr (.byte, [(.int (hb' c0)), (.int (lb' c0))])) : Addr × OObj) :: ((q, Sum.inr (.char, [(.int c0)])) : Addr × OObj) :: F) := (V42.bring 2 rfl)
  rw [e42]
  exact ⟨rfl, N42, b39, Vp43, O42⟩
theorem dj42m3_0 : decode jdk_42_method_3_code 0 = .ok (.aload_n 0, 1) := by decide +kernel
theorem dj42m3_1 : decode jdk_42_method_3_code 1 = .ok (.aload_n 1, 1) := by decide +kernel
theorem dj42m3_2 : decode jdk_42_method_3_code 2 = .ok (.iconst 0, 1) := by decide +kernel
theorem dj42m3_3 : decode jdk_42_method_3_code 3 = .ok (.aload_n 1, 1) := by decide +kernel
theorem dj42m3_4 : decode jdk_42_method_3_code 4 = .ok (.arraylength, 1) := by decide +kernel
theorem dj42m3_5 : decode jdk_42_method_3_code 5 = .ok (.aconst_null, 1) := by decide +kernel
theorem dj42m3_6 : decode jdk_42_method_3_code 6 = .ok (.invokespecial 27, 3) := by decide +kernel
theorem pd_10 : parseMethodDescriptor "([CIILjava/lang/Void;)V" = some ⟨[(.array .char), .int, .int, (.object "java/lang/Void")], none⟩ := by decide +kernel
theorem dj42m3_9 : decode jdk_42_method_3_code 9 = .ok (.return_, 1) := by decide +kernel
theorem ef_i1_10 (m : MethodId) (x0 : Addr) (x1 : Addr) : entryFrame m #[(.ref x0), (.ref x1)] 2 = mkF m 0 #[.val (.ref x0), .val (.ref x1)] [] := by first | (simp [entryFrame, mkF, argsToLocals, Value.category]; done) | rfl
def Q_i1_10 (Z : State) (a : Addr) (q : Addr) (G : Int32) (c0 : Int32) (h0 : Heap) (n0 : Nat) (F : List (Addr × OObj)) (v : Option Value) (h : Heap) (L : List Loc) : Prop := v = none ∧ Fr n0 L ∧ ∃ b : Addr, OView Z n0 h (((a, Sum.inl ("java/lang/String", ns_String, [(.ref b), (.int (1 : Int32))])) : Addr × OObj) :: ((b, Sum.inr (.byte, [(.int (hb' c0)), (.int (lb' c0))])) : Addr × OObj) :: ((q, Sum.inr (.char, [(.int c0)])) : Addr × OObj) :: F) ∧ Old Z n0 h
set_option maxRecDepth 65536 in
set_option maxHeartbeats 40000000 in
theorem rm_i1_10 (l : Launch) (Z : State) (a0 : Array Value) (hw : ∀ d ∈ tables_1, d.before a0 Z = true) (ws : List Jvm.Cond) (a : Addr) (q : Addr) (G : Int32) (c0 : Int32) (h0 : Heap) (n0 : Nat) (F : List (Addr × OObj)) (Z0 : n0 ≤ h0.size) (S0 : Sta Z Z.heap "java/lang/String" "COMPACT_STRINGS" "Z" (.int G)) (hG : ¬ G = (0 : Int32)) (SA : Sta Z Z.heap "java/lang/StringUTF16" "$assertionsDisabled" "Z" (.int (1 : Int32))) (SH : Sta Z Z.heap "java/lang/StringUTF16" "HI_BYTE_SHIFT" "I" (.int (0 : Int32))) (SL : Sta Z Z.heap "java/lang/StringUTF16" "LO_BYTE_SHIFT" "I" (.int (8 : Int32))) (u0 : (255 : Int32) < c0) (w0 : Ch c0) (V0 : OView Z n0 h0 (((a, Sum.inl ("java/lang/String", ns_String, [.null, (.int (0 : Int32))])) : Addr × OObj) :: ((q, Sum.inr (.char, [(.int c0)])) : Addr × OObj) :: F)) (O0 : Old Z n0 h0) :
    MetFree l (⟨"java/lang/String", "<init>", "([C)V"⟩ : MethodName) (head1 (Jvm.Cond.code (⟨"java/lang/String", "<init>", "([C)V"⟩ : MethodName) jdk_42_method_3_code 2 none :: ws) ({ frames := 5, cells := 2, slots := 3, locals := 74 } : Room)) (fun a_ U => a_ = #[(.ref a), (.ref q)] ∧ Z.Warmed39 U.vm ∧ U.heap = h0) (fun _ _ _ _ _ => True) (fun _ U o U' => ∃ v L, o = .returned v ∧ Q_i1_10 Z a q G c0 h0 n0 F v U'.heap L ∧ FrameEnd U o U' L ({ frames := 5, cells := 2, slots := 3, locals := 74 } : Room).cells ({ frames := 5, cells := 2, slots := 3, locals := 74 } : Room).slots) := by
  refine MetFree.of_bodySF (plainFor_of_name pn_8) hisR ?_
  intro p e s m args below meth c s₁ Bd hml0 hP hK
  obtain ⟨rfl, hZ, hh⟩ := hP
  have hx := Bd.exec
  have hby := Bd.bytes
  have hlk : meth.locks = false := Bd.notSynchronized
  have hml : c.maxLocals = 2 := hml0
  have hown : s.vm.findClass "java/lang/String" = some m.cls := findClass_of_methodNamed Bd.named
  have hnm := (name_of_methodNamed Bd.named Bd.method).1
  have X0 : Stand p l e ({ frames := 5, cells := 2, slots := 3, locals := 74 } : Room) s m #[(.ref a), (.ref q)] below meth c s₁ [] 0 0 := Stand.of_body Bd
  have e0 : s₁.heap = h0 := by rw [← hh, Bd.state]; rfl
  have N0 := Fr.nil n0
  show OGets p e below (OLeaves s (Q_i1_10 Z a q G c0 h0 n0 F ) ({ frames := 5, cells := 2, slots := 3, locals := 74 } : Room).cells ({ frames := 5, cells := 2, slots := 3, locals := 74 } : Room).slots) _
  refine OGets.enter (ef_i1_10 m a q) ?_
  show OGets p e below _ (s₁.setTop (mkF m 0 #[.val (.ref a), .val (.ref q)] []))
  refine OGets.step (fun _ => XS.aloadN X0.here hx rfl (hb hby dj42m3_0) rfl rfl) ?_
  refine OGets.step (fun _ => XS.aloadN X0.here hx rfl (hb hby dj42m3_1) rfl rfl) ?_
  refine OGets.step (fun _ => XS.iconst X0.here hx rfl (hb hby dj42m3_2)) ?_
  refine OGets.step (fun _ => XS.aloadN X0.here hx rfl (hb hby dj42m3_3) rfl rfl) ?_
  obtain ⟨cl44, Ar44, S44⟩ := V0.arr 1 rfl
  have ln44 : cl44.slots.size.toInt32 = (1 : Int32) := by rw [own_len S44]; rfl
  refine OGets.step (U' := s₁.setTop (mkF m 5 #[.val (.ref a), .val (.ref q)] [(.int (1 : Int32)), (.int (0 : Int32)), (.ref q), (.ref a)])) (fun t kt => ?_) ?_
  · refine X0.arraylength hx (by rw [e0]; exact Ar44.1) (State.isArrayOf_alike hZ.alike Ar44.2.1) (g := (mkF m 4 #[.val (.ref a), .val (.ref q)] [(.ref q), (.int (0 : Int32)), (.ref q), (.ref a)])) rfl rfl (hb hby dj42m3_4) _ ?_
    rw [ln44]; exact kt
  refine OGets.step (fun _ => XS.aconstNull X0.here hx rfl (hb hby dj42m3_5)) ?_
  show OGets p e below _ (s₁.setTop (mkF m 6 #[.val (.ref a), .val (.ref q)] [.null, (.int (1 : Int32)), (.int (0 : Int32)), (.ref q), (.ref a)]))
  obtain ⟨_, _, ⟨T45, L45, k45, n45⟩, -, X45, ⟨Lc45, hQ45, l45, y45, z45⟩, st45⟩ := X0.specialBack hx (y := (⟨"java/lang/String", "<init>", "([CIILjava/lang/Void;)V"⟩ : MethodName)) rfl hown (mvT hZ (hw _ (List.mem_of_getElem? (i := 13) rfl))) (mvT hZ (hw _ (List.mem_of_getElem? (i := 14) rfl))) (mvT hZ (hw _ (List.mem_of_getElem? (i := 16) rfl))) (by decide) (backOf (W := 0) (rm_i4_10 l Z a0 hw [] a q G c0 h0 n0 _ Z0 S0 hG SA SH SL u0 w0 V0 O0) hZ (hw _ (List.mem_of_getElem? (i := 16) rfl)) (hw _ (List.mem_of_getElem? (i := 8) rfl)) (by decide) (by decide)) (g := (mkF m 6 #[.val (.ref a), .val (.ref q)] [.null, (.int (1 : Int32)), (.int (0 : Int32)), (.ref q), (.ref a)])) rfl (by rw [hml]; rfl) (Steps.refl _) (a := a) (argsL := [(.ref q), (.int (0 : Int32)), (.int (1 : Int32)), .null]) (rest := []) (lenOf pd_10 rfl) rfl (by show 2 * 0 + _ ≤ _; exact Nat.le_of_eq rfl) (hb hby dj42m3_6) (fun _ _ => ⟨rfl, e0, Nat.le_of_ble_eq_true rfl, Nat.le_of_ble_eq_true rfl⟩)
  dsimp only [Pt.U, Pt.locs, Pt.cells, Pt.slots] at X45 l45 y45 z45 st45 hQ45
  rw [l45, y45, z45] at X45
  obtain ⟨rfl, N45q, b45, V45, O45q⟩ := hQ45
  have N45 := Fr.app N0 N45q
  have V45v : OView Z n0 T45.heap (((a, Sum.inl ("java/lang/String", ns_String, [(.ref b45), (.int (1 : Int32))])) : Addr × OObj) :: ((b45, Sum.inr (.byte, [(.int (hb' c0)), (.int (lb' c0))])) : Addr × OObj) :: ((q, Sum.inr (.char, [(.int c0)])) : Addr × OObj) :: F) := V45
  have Z45 : n0 ≤ T45.heap.size := V45v.big 0 rfl
  refine OGets.after st45 ?_
  refine OGets.retV X45 hx hlk Bd.returns (hb hby dj42m3_9) (Nat.le_of_ble_eq_true rfl) (Nat.le_of_ble_eq_true rfl) ?_
  exact ⟨rfl, N45, b45, V45v, O45q⟩
theorem dj52m21_26 : decode jdk_52_method_21_code 26 = .ok (.aload_n 2, 1) := by decide +kernel
theorem dj52m21_27 : decode jdk_52_method_21_code 27 = .ok (.iload_n 3, 1) := by decide +kernel
theorem dj52m21_28 : decode jdk_52_method_21_code 28 = .ok (.iload 6, 2) := by decide +kernel
theorem dj52m21_30 : decode jdk_52_method_21_code 30 = .ok (.i2b, 1) := by decide +kernel
theorem dj52m21_31 : decode jdk_52_method_21_code 31 = .ok (.bastore, 1) := by decide +kernel
theorem dj52m21_32 : decode jdk_52_method_21_code 32 = .ok (.iinc 1 1, 3) := by decide +kernel
theorem dj52m21_35 : decode jdk_52_method_21_code 35 = .ok (.iinc 3 1, 3) := by decide +kernel
theorem dj52m21_38 : decode jdk_52_method_21_code 38 = .ok (.iinc 5 1, 3) := by decide +kernel
theorem dj52m21_41 : decode jdk_52_method_21_code 41 = .ok (.goto (-38), 3) := by decide +kernel
theorem dj52m21_44 : decode jdk_52_method_21_code 44 = .ok (.iload 4, 2) := by decide +kernel
theorem dj52m21_46 : decode jdk_52_method_21_code 46 = .ok (.ireturn, 1) := by decide +kernel
theorem ef_c5_11 (m : MethodId) (x0 : Addr) (x1 : Int32) (x2 : Addr) (x3 : Int32) (x4 : Int32) : entryFrame m #[(.ref x0), (.int x1), (.ref x2), (.int x3), (.int x4)] 7 = mkF m 0 #[.val (.ref x0), .val (.int x1), .val (.ref x2), .val (.int x3), .val (.int x4), .unset, .unset] [] := by first | (simp [entryFrame, mkF, argsToLocals, Value.category]; done) | rfl
def Q_c5_11 (Z : State) (a : Addr) (b : Addr) (c0 : Int32) (h0 : Heap) (n0 : Nat) (F : List (Addr × OObj)) (v : Option Value) (h : Heap) (L : List Loc) : Prop := v = some (.int (1 : Int32)) ∧ Fr n0 L ∧ OView Z n0 h (((a, Sum.inr (.char, [(.int c0)])) : Addr × OObj) :: ((b, Sum.inr (.byte, [(.int (yb c0))])) : Addr × OObj) :: F) ∧ Old Z n0 h
set_option maxRecDepth 65536 in
set_option maxHeartbeats 40000000 in
theorem rm_c5_11 (l : Launch) (Z : State) (a0 : Array Value) (hw : ∀ d ∈ tables_1, d.before a0 Z = true) (ws : List Jvm.Cond) (a : Addr) (b : Addr) (c0 : Int32) (h0 : Heap) (n0 : Nat) (F : List (Addr × OObj)) (Z0 : n0 ≤ h0.size) (u0 : ¬ (255 : Int32) < c0) (V0 : OView Z n0 h0 (((a, Sum.inr (.char, [(.int c0)])) : Addr × OObj) :: ((b, Sum.inr (.byte, [(.int (0 : Int32))])) : Addr × OObj) :: F)) (O0 : Old Z n0 h0) :
    MetFree l (⟨"java/lang/StringUTF16", "compress", "([CI[BII)I"⟩ : MethodName) (head1 (Jvm.Cond.code (⟨"java/lang/StringUTF16", "compress", "([CI[BII)I"⟩ : MethodName) jdk_52_method_21_code 7 (some .int) :: ws) ({ frames := 0, cells := 0, slots := 0, locals := 0 } : Room)) (fun a_ U => a_ = #[(.ref a), (.int (0 : Int32)), (.ref b), (.int (0 : Int32)), (.int (1 : Int32))] ∧ Z.Warmed39 U.vm ∧ U.heap = h0) (fun _ _ _ _ _ => True) (fun _ U o U' => ∃ v L, o = .returned v ∧ Q_c5_11 Z a b c0 h0 n0 F v U'.heap L ∧ FrameEnd U o U' L ({ frames := 0, cells := 0, slots := 0, locals := 0 } : Room).cells ({ frames := 0, cells := 0, slots := 0, locals := 0 } : Room).slots) := by
  refine MetFree.of_bodySF (plainFor_of_name pn_1) hisR ?_
  intro p e s m args below meth c s₁ Bd hml0 hP hK
  obtain ⟨rfl, hZ, hh⟩ := hP
  have hx := Bd.exec
  have hby := Bd.bytes
  have hlk : meth.locks = false := Bd.notSynchronized
  have hml : c.maxLocals = 7 := hml0
  have hown : s.vm.findClass "java/lang/StringUTF16" = some m.cls := findClass_of_methodNamed Bd.named
  have hnm := (name_of_methodNamed Bd.named Bd.method).1
  have X0 : Stand p l e ({ frames := 0, cells := 0, slots := 0, locals := 0 } : Room) s m #[(.ref a), (.int (0 : Int32)), (.ref b), (.int (0 : Int32)), (.int (1 : Int32))] below meth c s₁ [] 0 0 := Stand.of_body Bd
  have e0 : s₁.heap = h0 := by rw [← hh, Bd.state]; rfl
  have N0 := Fr.nil n0
  show OGets p e below (OLeaves s (Q_c5_11 Z a b c0 h0 n0 F ) ({ frames := 0, cells := 0, slots := 0, locals := 0 } : Room).cells ({ frames := 0, cells := 0, slots := 0, locals := 0 } : Room).slots) _
  refine OGets.enter (ef_c5_11 m a (0 : Int32) b (0 : Int32) (1 : Int32)) ?_
  show OGets p e below _ (s₁.setTop (mkF m 0 #[.val (.ref a), .val (.int (0 : Int32)), .val (.ref b), .val (.int (0 : Int32)), .val (.int (1 : Int32)), .unset, .unset] []))
  refine OGets.step (fun _ => XS.iconst X0.here hx rfl (hb hby dj52m21_0)) ?_
  refine OGets.step (fun _ => XS.istore X0.here hx rfl (hb hby dj52m21_1) rfl (l' := #[.val (.ref a), .val (.int (0 : Int32)), .val (.ref b), .val (.int (0 : Int32)), .val (.int (1 : Int32)), .val (.int (0 : Int32)), .unset]) rfl) ?_
  refine OGets.step (fun _ => XS.iload X0.here hx rfl (hb hby dj52m21_3) rfl) ?_
  refine OGets.step (fun _ => XS.iload X0.here hx rfl (hb hby dj52m21_5) rfl) ?_
  refine OGets.step (fun _ => XS.icmpNo X0.here hx rfl (hb hby dj52m21_7) rfl (tlt (by decide : (0 : Int32) < (1 : Int32))).2.1) ?_
  refine OGets.step (fun _ => XS.aloadN X0.here hx rfl (hb hby dj52m21_10) rfl rfl) ?_
  show OGets p e below _ (s₁.setTop (mkF m 11 #[.val (.ref a), .val (.int (0 : Int32)), .val (.ref b), .val (.int (0 : Int32)), .val (.int (1 : Int32)), .val (.int (0 : Int32)), .unset] [(.ref a)]))
  refine OGets.step (fun _ => XS.iloadN X0.here hx rfl (hb hby dj52m21_11) rfl) ?_
  obtain ⟨cl47, Ar47, S47⟩ := V0.arr 0 rfl
  refine OGets.step (fun _ => X0.caload hx (j := (0 : Int32)) (v := (.int c0)) (by rw [e0]; exact Ar47.1) (State.isArrayOf_alike hZ.alike Ar47.2.1) Ar47.2.2 (own_inb S47 0 (by decide) (Nat.le_of_ble_eq_true rfl)) (own_get S47 0 (by decide) rfl) (g := (mkF m 12 #[.val (.ref a), .val (.int (0 : Int32)), .val (.ref b), .val (.int (0 : Int32)), .val (.int (1 : Int32)), .val (.int (0 : Int32)), .unset] [(.int (0 : Int32)), (.ref a)])) rfl rfl (hb hby dj52m21_12) _) ?_
  refine OGets.step (fun _ => XS.istore X0.here hx rfl (hb hby dj52m21_13) rfl (l' := #[.val (.ref a), .val (.int (0 : Int32)), .val (.ref b), .val (.int (0 : Int32)), .val (.int (1 : Int32)), .val (.int (0 : Int32)), .val (.int c0)]) rfl) ?_
  refine OGets.step (fun _ => XS.iload X0.here hx rfl (hb hby dj52m21_15) rfl) ?_
  refine OGets.step (fun _ => XS.sipush X0.here hx rfl (hb hby dj52m21_17)) ?_
  refine OGets.step (fun _ => XS.icmpYes X0.here hx rfl (pc0 := 20) (pc' := 26) rfl (hb hby dj52m21_20) rfl (flt (u0 : ¬ ((255 : Int32) < c0))).2.2.2 (by decide) (by decide)) ?_
  show OGets p e below _ (s₁.setTop (mkF m 26 #[.val (.ref a), .val (.int (0 : Int32)), .val (.ref b), .val (.int (0 : Int32)), .val (.int (1 : Int32)), .val (.int (0 : Int32)), .val (.int c0)] []))
  refine OGets.step (fun _ => XS.aloadN X0.here hx rfl (hb hby dj52m21_26) rfl rfl) ?_
  refine OGets.step (fun _ => XS.iloadN X0.here hx rfl (hb hby dj52m21_27) rfl) ?_
  refine OGets.step (fun _ => XS.iload X0.here hx rfl (hb hby dj52m21_28) rfl) ?_
  refine OGets.step (fun _ => XS.i2b X0.here hx rfl (hb hby dj52m21_30) rfl) ?_
  obtain ⟨cl49, Ar49, S49⟩ := V0.arr 1 rfl
  obtain ⟨T49, h49, X49, e49, W49', st49⟩ := stB X0 hx hZ e0 Ar49 (j := (0 : Int32)) (own_inb S49 0 (by decide) (Nat.le_of_ble_eq_true rfl)) (g := (mkF m 31 #[.val (.ref a), .val (.int (0 : Int32)), .val (.ref b), .val (.int (0 : Int32)), .val (.int (1 : Int32)), .val (.int (0 : Int32)), .val (.int c0)] [(.int (c0.toInt8.toInt32)), (.int (0 : Int32)), (.ref b)])) rfl rfl (hb hby dj52m21_31)
  have W49 := own_wr (vs := []) 0 (by decide) W49'
  have V49 : OView Z n0 h49 (((a, Sum.inr (.char, [(.int c0)])) : Addr × OObj) :: ((b, Sum.inr (.byte, [(.int (yb c0))])) : Addr × OObj) :: F) := V0.putA 1 rfl W49
  have N49 := Fr.snoc X49 N0 (V0.old 1 rfl)
  have Z49 : n0 ≤ h49.size := by rw [W49.size]; exact Z0
  have O49 := O0.wr W49 (V0.old 1 rfl)
  refine OGets.step st49 ?_
  refine OGets.step (fun _ => XS.iinc X49.here hx rfl (hb hby dj52m21_32) rfl (l' := #[.val (.ref a), .val (.int (1 : Int32)), .val (.ref b), .val (.int (0 : Int32)), .val (.int (1 : Int32)), .val (.int (0 : Int32)), .val (.int c0)]) rfl) ?_
  refine OGets.step (fun _ => XS.iinc X49.here hx rfl (hb hby dj52m21_35) rfl (l' := #[.val (.ref a), .val (.int (1 : Int32)), .val (.ref b), .val (.int (1 : Int32)), .val (.int (1 : Int32)), .val (.int (0 : Int32)), .val (.int c0)]) rfl) ?_
  refine OGets.step (fun _ => XS.iinc X49.here hx rfl (hb hby dj52m21_38) rfl (l' := #[.val (.ref a), .val (.int (1 : Int32)), .val (.ref b), .val (.int (1 : Int32)), .val (.int (1 : Int32)), .val (.int (1 : Int32)), .val (.int c0)]) rfl) ?_
  refine OGets.step (fun _ => XS.goto X49.here hx rfl (pc0 := 41) (pc' := 3) rfl (hb hby dj52m21_41) (by decide) (by decide)) ?_
  refine OGets.step (fun _ => XS.iload X49.here hx rfl (hb hby dj52m21_3) rfl) ?_
  show OGets p e below _ (T49.setTop (mkF m 5 #[.val (.ref a), .val (.int (1 : Int32)), .val (.ref b), .val (.int (1 : Int32)), .val (.int (1 : Int32)), .val (.int (1 : Int32)), .val (.int c0)] [(.int (1 : Int32))]))
  refine OGets.step (fun _ => XS.iload X49.here hx rfl (hb hby dj52m21_5) rfl) ?_
  refine OGets.step (fun _ => XS.icmpYes X49.here hx rfl (pc0 := 7) (pc' := 44) rfl (hb hby dj52m21_7) rfl (flt (by decide : ¬ ((1 : Int32) < (1 : Int32)))).2.1 (by decide) (by decide)) ?_
  refine OGets.step (fun _ => XS.iload X49.here hx rfl (hb hby dj52m21_44) rfl) ?_
  refine OGets.retI X49 hx hlk Bd.returns (hb hby dj52m21_46) (Nat.le_of_ble_eq_true rfl) (Nat.le_of_ble_eq_true rfl) ?_
  rw [e49]
  exact ⟨rfl, N49, V49, O49⟩
theorem dj52m16_57 : decode jdk_52_method_16_code 57 = .ok (.aload_n 3, 1) := by decide +kernel
theorem dj52m16_58 : decode jdk_52_method_16_code 58 = .ok (.areturn, 1) := by decide +kernel
theorem ef_c3_11 (m : MethodId) (x0 : Addr) (x1 : Int32) (x2 : Int32) : entryFrame m #[(.ref x0), (.int x1), (.int x2)] 6 = mkF m 0 #[.val (.ref x0), .val (.int x1), .val (.int x2), .unset, .unset, .unset] [] := by first | (simp [entryFrame, mkF, argsToLocals, Value.category]; done) | rfl
def Q_c3_11 (Z : State) (a : Addr) (c0 : Int32) (h0 : Heap) (n0 : Nat) (F : List (Addr × OObj)) (v : Option Value) (h : Heap) (L : List Loc) : Prop := ∃ b : Addr, v = some (.ref b) ∧ Fr n0 L ∧ OView Z n0 h (((b, Sum.inr (.byte, [(.int (yb c0))])) : Addr × OObj) :: ((a, Sum.inr (.char, [(.int c0)])) : Addr × OObj) :: F) ∧ Old Z n0 h
set_option maxRecDepth 65536 in
set_option maxHeartbeats 40000000 in
theorem rm_c3_11 (l : Launch) (Z : State) (a0 : Array Value) (hw : ∀ d ∈ tables_1, d.before a0 Z = true) (ws : List Jvm.Cond) (a : Addr) (c0 : Int32) (h0 : Heap) (n0 : Nat) (F : List (Addr × OObj)) (Z0 : n0 ≤ h0.size) (SA : Sta Z Z.heap "java/lang/StringUTF16" "$assertionsDisabled" "Z" (.int (1 : Int32))) (SH : Sta Z Z.heap "java/lang/StringUTF16" "HI_BYTE_SHIFT" "I" (.int (0 : Int32))) (SL : Sta Z Z.heap "java/lang/StringUTF16" "LO_BYTE_SHIFT" "I" (.int (8 : Int32))) (u0 : ¬ (255 : Int32) < c0) (V0 : OView Z n0 h0 (((a, Sum.inr (.char, [(.int c0)])) : Addr × OObj) :: F)) (O0 : Old Z n0 h0) :
    MetFree l (⟨"java/lang/StringUTF16", "compress", "([CII)[B"⟩ : MethodName) (head1 (Jvm.Cond.code (⟨"java/lang/StringUTF16", "compress", "([CII)[B"⟩ : MethodName) jdk_52_method_16_code 6 (some (.array .byte)) :: ws) ({ frames := 1, cells := 1, slots := 1, locals := 18 } : Room)) (fun a_ U => a_ = #[(.ref a), (.int (0 : Int32)), (.int (1 : Int32))] ∧ Z.Warmed39 U.vm ∧ U.heap = h0) (fun _ _ _ _ _ => True) (fun _ U o U' => ∃ v L, o = .returned v ∧ Q_c3_11 Z a c0 h0 n0 F v U'.heap L ∧ FrameEnd U o U' L ({ frames := 1, cells := 1, slots := 1, locals := 18 } : Room).cells ({ frames := 1, cells := 1, slots := 1, locals := 18 } : Room).slots) := by
  refine MetFree.of_bodySF (plainFor_of_name pn_1) hisR ?_
  intro p e s m args below meth c s₁ Bd hml0 hP hK
  obtain ⟨rfl, hZ, hh⟩ := hP
  have hx := Bd.exec
  have hby := Bd.bytes
  have hlk : meth.locks = false := Bd.notSynchronized
  have hml : c.maxLocals = 6 := hml0
  have hown : s.vm.findClass "java/lang/StringUTF16" = some m.cls := findClass_of_methodNamed Bd.named
  have hnm := (name_of_methodNamed Bd.named Bd.method).1
  have X0 : Stand p l e ({ frames := 1, cells := 1, slots := 1, locals := 18 } : Room) s m #[(.ref a), (.int (0 : Int32)), (.int (1 : Int32))] below meth c s₁ [] 0 0 := Stand.of_body Bd
  have e0 : s₁.heap = h0 := by rw [← hh, Bd.state]; rfl
  have N0 := Fr.nil n0
  show OGets p e below (OLeaves s (Q_c3_11 Z a c0 h0 n0 F ) ({ frames := 1, cells := 1, slots := 1, locals := 18 } : Room).cells ({ frames := 1, cells := 1, slots := 1, locals := 18 } : Room).slots) _
  refine OGets.enter (ef_c3_11 m a (0 : Int32) (1 : Int32)) ?_
  show OGets p e below _ (s₁.setTop (mkF m 0 #[.val (.ref a), .val (.int (0 : Int32)), .val (.int (1 : Int32)), .unset, .unset, .unset] []))
  refine OGets.step (fun _ => XS.iloadN X0.here hx rfl (hb hby dj52m16_0) rfl) ?_
  obtain ⟨T51, h51, k51, X51, e51, E51, A51, st51⟩ := newP X0 hx hZ (hw _ (List.mem_of_getElem? (i := 21) rfl)) e0 (g := (mkF m 1 #[.val (.ref a), .val (.int (0 : Int32)), .val (.int (1 : Int32)), .unset, .unset, .unset] [(.int (1 : Int32))])) rfl (hb hby dj52m16_1) rfl (by decide) (cap := 1) (by decide) (by decide) (by decide) (by decide)
  have V51' := V0.newArr Z0 E51 A51 1 rfl
  have Z51 : n0 ≤ h51.size := Nat.le_trans Z0 E51.1
  obtain ⟨b51, g51⟩ : ∃ z, z = h0.size := ⟨_, rfl⟩
  rw [← g51] at V51' st51
  have V51 : OView Z n0 h51 (((b51, Sum.inr (.byte, [(.int (0 : Int32))])) : Addr × OObj) :: ((a, Sum.inr (.char, [(.int c0)])) : Addr × OObj) :: F) := V51'
  have O51 := O0.ext E51
  refine OGets.step st51 ?_
  refine OGets.step (fun _ => XS.astoreN X51.here hx rfl (hb hby dj52m16_3) rfl rfl (l' := #[.val (.ref a), .val (.int (0 : Int32)), .val (.int (1 : Int32)), .val (.ref b51), .unset, .unset]) rfl) ?_
  refine OGets.step (fun _ => XS.aloadN X51.here hx rfl (hb hby dj52m16_4) rfl rfl) ?_
  refine OGets.step (fun _ => XS.iloadN X51.here hx rfl (hb hby dj52m16_5) rfl) ?_
  refine OGets.step (fun _ => XS.aloadN X51.here hx rfl (hb hby dj52m16_6) rfl rfl) ?_
  refine OGets.step (fun _ => XS.iconst X51.here hx rfl (hb hby dj52m16_7)) ?_
  show OGets p e below _ (T51.setTop (mkF m 8 #[.val (.ref a), .val (.int (0 : Int32)), .val (.int (1 : Int32)), .val (.ref b51), .unset, .unset] [(.int (0 : Int32)), (.ref b51), (.int (0 : Int32)), (.ref a)]))
  refine OGets.step (fun _ => XS.iloadN X51.here hx rfl (hb hby dj52m16_8) rfl) ?_
  have V52_ : OView Z _ h51 (((a, Sum.inr (.char, [(.int c0)])) : Addr × OObj) :: ((b51, Sum.inr (.byte, [(.int (0 : Int32))])) : Addr × OObj) :: F) := (V51.bring 1 rfl)
  obtain ⟨_, _, ⟨T52, L52, k52, n52⟩, -, X52, ⟨Lc52, hQ52, l52, y52, z52⟩, st52⟩ := Jvm.LawKit.callS X51 hx (y := (⟨"java/lang/StringUTF16", "compress", "([CI[BII)I"⟩ : MethodName)) hown (mvT hZ (hw _ (List.mem_of_getElem? (i := 49) rfl))) (mvT hZ (hw _ (List.mem_of_getElem? (i := 50) rfl))) (mvT hZ (hw _ (List.mem_of_getElem? (i := 47) rfl))) (mvT hZ (hw _ (List.mem_of_getElem? (i := 51) rfl))) (by decide) (backOf (W := 0) (rm_c5_11 l Z a0 hw [] a b51 c0 h51 n0 _ Z51 u0 V52_ O51) hZ (hw _ (List.mem_of_getElem? (i := 51) rfl)) (hw _ (List.mem_of_getElem? (i := 47) rfl)) (by decide) (by decide)) (g := (mkF m 9 #[.val (.ref a), .val (.int (0 : Int32)), .val (.int (1 : Int32)), .val (.ref b51), .unset, .unset] [(.int (1 : Int32)), (.int (0 : Int32)), (.ref b51), (.int (0 : Int32)), (.ref a)])) rfl (by rw [hml]; rfl) (argsL := [(.ref a), (.int (0 : Int32)), (.ref b51), (.int (0 : Int32)), (.int (1 : Int32))]) (rest := []) (lenOf pd_5 rfl) rfl (by show 2 * 0 + _ ≤ _; exact Nat.le_of_eq rfl) (hb hby dj52m16_9) (fun _ _ => ⟨rfl, e51, Nat.le_of_ble_eq_true rfl, Nat.le_of_ble_eq_true rfl⟩)
  dsimp only [Pt.U, Pt.locs, Pt.cells, Pt.slots] at X52 l52 y52 z52 st52 hQ52
  rw [l52, y52, z52] at X52
  obtain ⟨rfl, N52q, V52, O52q⟩ := hQ52
  have N52 := Fr.app N0 N52q
  have V52v : OView Z n0 T52.heap (((a, Sum.inr (.char, [(.int c0)])) : Addr × OObj) :: ((b51, Sum.inr (.byte, [(.int (yb c0))])) : Addr × OObj) :: F) := V52
  have Z52 : n0 ≤ T52.heap.size := V52v.big 0 rfl
  refine OGets.step st52 ?_
  refine OGets.step (fun _ => XS.istore X52.here hx rfl (hb hby dj52m16_12) rfl (l' := #[.val (.ref a), .val (.int (0 : Int32)), .val (.int (1 : Int32)), .val (.ref b51), .val (.int (1 : Int32)), .unset]) rfl) ?_
  refine OGets.step (fun _ => XS.iload X52.here hx rfl (hb hby dj52m16_14) rfl) ?_
  refine OGets.step (fun _ => XS.iloadN X52.here hx rfl (hb hby dj52m16_16) rfl) ?_
  refine OGets.step (fun _ => XS.icmpYes X52.here hx rfl (pc0 := 17) (pc' := 57) rfl (hb hby dj52m16_17) rfl (teq (by decide : (1 : Int32) = (1 : Int32))).1 (by decide) (by decide)) ?_
  refine OGets.step (fun _ => XS.aloadN X52.here hx rfl (hb hby dj52m16_57) rfl rfl) ?_
  show OGets p e below _ (T52.setTop (mkF m 58 #[.val (.ref a), .val (.int (0 : Int32)), .val (.int (1 : Int32)), .val (.ref b51), .val (.int (1 : Int32)), .unset] [(.ref b51)]))
  refine OGets.retA X52 hx hlk (t := (.array .byte)) Bd.returns rfl rfl rfl (hb hby dj52m16_58) (Nat.le_of_ble_eq_true rfl) (Nat.le_of_ble_eq_true rfl) ?_
  have Vp54 : OView Z _ T52.heap (((b51, Sum.inr (.byte, [(.int (yb c0))])) : Addr × OObj) :: ((a, Sum.inr (.char, [(.int c0)])) : Addr × OObj) :: F) := (V52v.bring 1 rfl)
  exact ⟨b51, rfl, N52, Vp54, O52q⟩
theorem ef_i4_11 (m : MethodId) (x0 : Addr) (x1 : Addr) (x2 : Int32) (x3 : Int32) : entryFrame m #[(.ref x0), (.ref x1), (.int x2), (.int x3), .null] 6 = mkF m 0 #[.val (.ref x0), .val (.ref x1), .val (.int x2), .val (.int x3), .val .null, .unset] [] := by first | (simp [entryFrame, mkF, argsToLocals, Value.category]; done) | rfl
def Q_i4_11 (Z : State) (a : Addr) (q : Addr) (G : Int32) (c0 : Int32) (h0 : Heap) (n0 : Nat) (F : List (Addr × OObj)) (v : Option Value) (h : Heap) (L : List Loc) : Prop := v = none ∧ Fr n0 L ∧ ∃ b : Addr, OView Z n0 h (((a, Sum.inl ("java/lang/String", ns_String, [(.ref b), (.int (0 : Int32))])) : Addr × OObj) :: ((b, Sum.inr (.byte, [(.int (yb c0))])) : Addr × OObj) :: ((q, Sum.inr (.char, [(.int c0)])) : Addr × OObj) :: F) ∧ Old Z n0 h
set_option maxRecDepth 65536 in
set_option maxHeartbeats 40000000 in
theorem rm_i4_11 (l : Launch) (Z : State) (a0 : Array Value) (hw : ∀ d ∈ tables_1, d.before a0 Z = true) (ws : List Jvm.Cond) (a : Addr) (q : Addr) (G : Int32) (c0 : Int32) (h0 : Heap) (n0 : Nat) (F : List (Addr × OObj)) (Z0 : n0 ≤ h0.size) (S0 : Sta Z Z.heap "java/lang/String" "COMPACT_STRINGS" "Z" (.int G)) (hG : ¬ G = (0 : Int32)) (SA : Sta Z Z.heap "java/lang/StringUTF16" "$assertionsDisabled" "Z" (.int (1 : Int32))) (SH : Sta Z Z.heap "java/lang/StringUTF16" "HI_BYTE_SHIFT" "I" (.int (0 : Int32))) (SL : Sta Z Z.heap "java/lang/StringUTF16" "LO_BYTE_SHIFT" "I" (.int (8 : Int32))) (u0 : ¬ (255 : Int32) < c0) (V0 : OView Z n0 h0 (((a, Sum.inl ("java/lang/String", ns_String, [.null, (.int (0 : Int32))])) : Addr × OObj) :: ((q, Sum.inr (.char, [(.int c0)])) : Addr × OObj) :: F)) (O0 : Old Z n0 h0) :
    MetFree l (⟨"java/lang/String", "<init>", "([CIILjava/lang/Void;)V"⟩ : MethodName) (head1 (Jvm.Cond.code (⟨"java/lang/String", "<init>", "([CIILjava/lang/Void;)V"⟩ : MethodName) jdk_42_method_149_code 6 none :: ws) ({ frames := 2, cells := 1, slots := 1, locals := 35 } : Room)) (fun a_ U => a_ = #[(.ref a), (.ref q), (.int (0 : Int32)), (.int (1 : Int32)), .null] ∧ Z.Warmed39 U.vm ∧ U.heap = h0) (fun _ _ _ _ _ => True) (fun _ U o U' => ∃ v L, o = .returned v ∧ Q_i4_11 Z a q G c0 h0 n0 F v U'.heap L ∧ FrameEnd U o U' L ({ frames := 2, cells := 1, slots := 1, locals := 35 } : Room).cells ({ frames := 2, cells := 1, slots := 1, locals := 35 } : Room).slots) := by
  refine MetFree.of_bodySF (plainFor_of_name pn_8) hisR ?_
  intro p e s m args below meth c s₁ Bd hml0 hP hK
  obtain ⟨rfl, hZ, hh⟩ := hP
  have hx := Bd.exec
  have hby := Bd.bytes
  have hlk : meth.locks = false := Bd.notSynchronized
  have hml : c.maxLocals = 6 := hml0
  have hown : s.vm.findClass "java/lang/String" = some m.cls := findClass_of_methodNamed Bd.named
  have hnm := (name_of_methodNamed Bd.named Bd.method).1
  have X0 : Stand p l e ({ frames := 2, cells := 1, slots := 1, locals := 35 } : Room) s m #[(.ref a), (.ref q), (.int (0 : Int32)), (.int (1 : Int32)), .null] below meth c s₁ [] 0 0 := Stand.of_body Bd
  have e0 : s₁.heap = h0 := by rw [← hh, Bd.state]; rfl
  have N0 := Fr.nil n0
  show OGets p e below (OLeaves s (Q_i4_11 Z a q G c0 h0 n0 F ) ({ frames := 2, cells := 1, slots := 1, locals := 35 } : Room).cells ({ frames := 2, cells := 1, slots := 1, locals := 35 } : Room).slots) _
  refine OGets.enter (ef_i4_11 m a q (0 : Int32) (1 : Int32)) ?_
  show OGets p e below _ (s₁.setTop (mkF m 0 #[.val (.ref a), .val (.ref q), .val (.int (0 : Int32)), .val (.int (1 : Int32)), .val .null, .unset] []))
  refine OGets.step (fun _ => XS.aloadN X0.here hx rfl (hb hby dj42m149_0) rfl rfl) ?_
  obtain ⟨T55, X55, e55, st55⟩ := initO X0 hx hZ hown (hw _ (List.mem_of_getElem? (i := 17) rfl)) (hw _ (List.mem_of_getElem? (i := 18) rfl)) (hw _ (List.mem_of_getElem? (i := 19) rfl)) e0 (g := (mkF m 1 #[.val (.ref a), .val (.ref q), .val (.int (0 : Int32)), .val (.int (1 : Int32)), .val .null, .unset] [(.ref a)])) rfl (by rw [hml]; rfl) rfl (hb hby dj42m149_1) (by decide) (W := 0) (by show 2 * 0 + _ ≤ _; exact Nat.le_of_eq rfl) (by decide)
  refine OGets.step st55 ?_
  refine OGets.step (fun _ => XS.iloadN X55.here hx rfl (hb hby dj42m149_4) rfl) ?_
  refine OGets.step (fun _ => XS.ifYes X55.here hx rfl (pc0 := 5) (pc' := 27) rfl (hb hby dj42m149_5) rfl ((if0 _ _).trans (feq (by decide : ¬ ((1 : Int32) = (0 : Int32)))).2) (by decide) (by decide)) ?_
  obtain ⟨T57, X57, e57, st57⟩ := getS2 X55 hx hZ hown (host := "") (Or.inl (hw _ (List.mem_of_getElem? (i := 39) rfl))) Via.refl e55 (S0.ext O0.2) (g := (mkF m 27 #[.val (.ref a), .val (.ref q), .val (.int (0 : Int32)), .val (.int (1 : Int32)), .val .null, .unset] [])) rfl (hb hby dj42m149_27)
  refine OGets.step st57 ?_
  refine OGets.step (fun _ => XS.ifNo X57.here hx rfl (hb hby dj42m149_30) rfl ((if0 _ _).trans (feq (hG : ¬ (G = (0 : Int32)))).1)) ?_
  refine OGets.step (fun _ => XS.aloadN X57.here hx rfl (hb hby dj42m149_33) rfl rfl) ?_
  refine OGets.step (fun _ => XS.iloadN X57.here hx rfl (hb hby dj42m149_34) rfl) ?_
  refine OGets.step (fun _ => XS.iloadN X57.here hx rfl (hb hby dj42m149_35) rfl) ?_
  have V59_ : OView Z _ h0 (((q, Sum.inr (.char, [(.int c0)])) : Addr × OObj) :: ((a, Sum.inl ("java/lang/String", ns_String, [.null, (.int (0 : Int32))])) : Addr × OObj) :: F) := (V0.bring 1 rfl)
  obtain ⟨_, _, ⟨T59, L59, k59, n59⟩, -, X59, ⟨Lc59, hQ59, l59, y59, z59⟩, st59⟩ := Jvm.LawKit.callS X57 hx (y := (⟨"java/lang/StringUTF16", "compress", "([CII)[B"⟩ : MethodName)) hown (mvT hZ (hw _ (List.mem_of_getElem? (i := 45) rfl))) (mvT hZ (hw _ (List.mem_of_getElem? (i := 46) rfl))) (mvT hZ (hw _ (List.mem_of_getElem? (i := 47) rfl))) (mvT hZ (hw _ (List.mem_of_getElem? (i := 48) rfl))) (by decide) (backOf (W := 0) (rm_c3_11 l Z a0 hw [] q c0 h0 n0 _ Z0 SA SH SL u0 V59_ O0) hZ (hw _ (List.mem_of_getElem? (i := 48) rfl)) (hw _ (List.mem_of_getElem? (i := 47) rfl)) (by decide) (by decide)) (g := (mkF m 36 #[.val (.ref a), .val (.ref q), .val (.int (0 : Int32)), .val (.int (1 : Int32)), .val .null, .unset] [(.int (1 : Int32)), (.int (0 : Int32)), (.ref q)])) rfl (by rw [hml]; rfl) (argsL := [(.ref q), (.int (0 : Int32)), (.int (1 : Int32))]) (rest := []) (lenOf pd_6 rfl) rfl (by show 2 * 0 + _ ≤ _; exact Nat.le_of_eq rfl) (hb hby dj42m149_36) (fun _ _ => ⟨rfl, e57, Nat.le_of_ble_eq_true rfl, Nat.le_of_ble_eq_true rfl⟩)
  dsimp only [Pt.U, Pt.locs, Pt.cells, Pt.slots] at X59 l59 y59 z59 st59 hQ59
  rw [l59, y59, z59] at X59
  obtain ⟨b59, rfl, N59q, V59, O59q⟩ := hQ59
  have N59 := Fr.app N0 N59q
  have V59v : OView Z n0 T59.heap (((b59, Sum.inr (.byte, [(.int (yb c0))])) : Addr × OObj) :: ((q, Sum.inr (.char, [(.int c0)])) : Addr × OObj) :: ((a, Sum.inl ("java/lang/String", ns_String, [.null, (.int (0 : Int32))])) : Addr × OObj) :: F) := V59
  have Z59 : n0 ≤ T59.heap.size := V59v.big 0 rfl
  refine OGets.step st59 ?_
  refine OGets.step (fun _ => XS.astore X59.here hx rfl (hb hby dj42m149_39) rfl rfl (l' := #[.val (.ref a), .val (.ref q), .val (.int (0 : Int32)), .val (.int (1 : Int32)), .val .null, .val (.ref b59)]) rfl) ?_
  refine OGets.step (fun _ => XS.aloadN X59.here hx rfl (hb hby dj42m149_41) rfl rfl) ?_
  refine OGets.step (fun _ => XS.aload X59.here hx rfl (hb hby dj42m149_42) rfl rfl) ?_
  refine OGets.step (fun _ => XS.iloadN X59.here hx rfl (hb hby dj42m149_44) rfl) ?_
  obtain ⟨_, _, ⟨T60, L60, k60, n60⟩, -, X60, ⟨Lc60, hQ60, l60, y60, z60⟩, st60⟩ := Jvm.LawKit.callS X59 hx (y := (⟨"java/lang/StringUTF16", "coderFromArrayLen", "([BI)B"⟩ : MethodName)) hown (mvT hZ (hw _ (List.mem_of_getElem? (i := 52) rfl))) (mvT hZ (hw _ (List.mem_of_getElem? (i := 53) rfl))) (mvT hZ (hw _ (List.mem_of_getElem? (i := 47) rfl))) (mvT hZ (hw _ (List.mem_of_getElem? (i := 54) rfl))) (by decide) (backOf (W := 1) (rm_cfl10 l Z a0 hw [] b59 (yb c0) T59.heap n0 _ Z59  V59v) hZ (hw _ (List.mem_of_getElem? (i := 54) rfl)) (hw _ (List.mem_of_getElem? (i := 47) rfl)) (by decide) (by decide)) (g := (mkF m 45 #[.val (.ref a), .val (.ref q), .val (.int (0 : Int32)), .val (.int (1 : Int32)), .val .null, .val (.ref b59)] [(.int (1 : Int32)), (.ref b59), (.ref a)])) rfl (by rw [hml]; rfl) (argsL := [(.ref b59), (.int (1 : Int32))]) (rest := [(.ref a)]) (lenOf pd_9 rfl) rfl (by show 2 * 0 + _ ≤ _; exact Nat.le_of_eq rfl) (hb hby dj42m149_45) (fun _ _ => ⟨rfl, rfl, Nat.le_of_ble_eq_true rfl, Nat.le_of_ble_eq_true rfl⟩)
  dsimp only [Pt.U, Pt.locs, Pt.cells, Pt.slots] at X60 l60 y60 z60 st60 hQ60
  rw [l60, y60, z60] at X60
  obtain ⟨rfl, rfl, e60⟩ := hQ60
  have N60 := Fr.app N59 (Fr.nil n0)
  refine OGets.step st60 ?_
  obtain ⟨T61, h61, X61, e61, W61, st61⟩ := putFN X60 hx hZ hown (hw _ (List.mem_of_getElem? (i := 27) rfl)) Via.refl e60 (V59v.fld 2 rfl 1 rfl rfl) (V59v.exa 2 rfl) (Or.inr ⟨(hw _ (List.mem_of_getElem? (i := 23) rfl)), rfl, hnm⟩) (hw _ (List.mem_of_getElem? (i := 7) rfl)) (ty := .byte) (v' := (.int (0 : Int32))) (by decide) rfl (by decide) (g := (mkF m 48 #[.val (.ref a), .val (.ref q), .val (.int (0 : Int32)), .val (.int (1 : Int32)), .val .null, .val (.ref b59)] [(.int (0 : Int32)), (.ref a)])) rfl rfl (hb hby dj42m149_48)
  have V61 : OView Z n0 h61 (((b59, Sum.inr (.byte, [(.int (yb c0))])) : Addr × OObj) :: ((q, Sum.inr (.char, [(.int c0)])) : Addr × OObj) :: ((a, Sum.inl ("java/lang/String", ns_String, [.null, (.int (0 : Int32))])) : Addr × OObj) :: F) := V59v.putF 2 rfl 1 rfl W61
  have N61 := Fr.snoc X61 N60 (V59v.old 2 rfl)
  have Z61 : n0 ≤ h61.size := by rw [W61.size]; exact Z59
  have O61 := O59q.wr W61 (V59v.old 2 rfl)
  refine OGets.step st61 ?_
  refine OGets.step (fun _ => XS.aloadN X61.here hx rfl (hb hby dj42m149_51) rfl rfl) ?_
  refine OGets.step (fun _ => XS.aload X61.here hx rfl (hb hby dj42m149_52) rfl rfl) ?_
  obtain ⟨T62, h62, X62, e62, W62, st62⟩ := putF X61 hx hZ hown (host := "") (Or.inl (hw _ (List.mem_of_getElem? (i := 26) rfl))) Via.refl e61 (V61.fld 2 rfl 0 rfl rfl) (V61.exa 2 rfl) (Or.inr ⟨(hw _ (List.mem_of_getElem? (i := 22) rfl)), rfl, hnm⟩) (hw _ (List.mem_of_getElem? (i := 7) rfl)) (ty := (.array .byte)) (by decide) rfl rfl (g := (mkF m 54 #[.val (.ref a), .val (.ref q), .val (.int (0 : Int32)), .val (.int (1 : Int32)), .val .null, .val (.ref b59)] [(.ref b59), (.ref a)])) rfl rfl (hb hby dj42m149_54)
  have V62 : OView Z n0 h62 (((b59, Sum.inr (.byte, [(.int (yb c0))])) : Addr × OObj) :: ((q, Sum.inr (.char, [(.int c0)])) : Addr × OObj) :: ((a, Sum.inl ("java/lang/String", ns_String, [(.ref b59), (.int (0 : Int32))])) : Addr × OObj) :: F) := V61.putF 2 rfl 0 rfl W62
  have N62 := Fr.snoc X62 N61 (V61.old 2 rfl)
  have Z62 : n0 ≤ h62.size := by rw [W62.size]; exact Z61
  have O62 := O61.wr W62 (V61.old 2 rfl)
  refine OGets.step st62 ?_
  refine OGets.retV X62 hx hlk Bd.returns (hb hby dj42m149_57) (Nat.le_of_ble_eq_true rfl) (Nat.le_of_ble_eq_true rfl) ?_
  have Vp63 : OView Z _ h62 (((a, Sum.inl ("java/lang/String", ns_String, [(.ref b59), (.int (0 : Int32))])) : Addr × OObj) :: ((b59, Sum.inr (.byte, [(.int (yb c0))])) : Addr × OObj) :: ((q, Sum.inr (.char, [(.int c0)])) : Addr × OObj) :: F) := (V62.bring 2 rfl)
  rw [e62]
  exact ⟨rfl, N62, b59, Vp63, O62⟩
theorem ef_i1_11 (m : MethodId) (x0 : Addr) (x1 : Addr) : entryFrame m #[(.ref x0), (.ref x1)] 2 = mkF m 0 #[.val (.ref x0), .val (.ref x1)] [] := by first | (simp [entryFrame, mkF, argsToLocals, Value.category]; done) | rfl
def Q_i1_11 (Z : State) (a : Addr) (q : Addr) (G : Int32) (c0 : Int32) (h0 : Heap) (n0 : Nat) (F : List (Addr × OObj)) (v : Option Value) (h : Heap) (L : List Loc) : Prop := v = none ∧ Fr n0 L ∧ ∃ b : Addr, OView Z n0 h (((a, Sum.inl ("java/lang/String", ns_String, [(.ref b), (.int (0 : Int32))])) : Addr × OObj) :: ((b, Sum.inr (.byte, [(.int (yb c0))])) : Addr × OObj) :: ((q, Sum.inr (.char, [(.int c0)])) : Addr × OObj) :: F) ∧ Old Z n0 h
set_option maxRecDepth 65536 in
set_option maxHeartbeats 40000000 in
theorem rm_i1_11 (l : Launch) (Z : State) (a0 : Array Value) (hw : ∀ d ∈ tables_1, d.before a0 Z = true) (ws : List Jvm.Cond) (a : Addr) (q : Addr) (G : Int32) (c0 : Int32) (h0 : Heap) (n0 : Nat) (F : List (Addr × OObj)) (Z0 : n0 ≤ h0.size) (S0 : Sta Z Z.heap "java/lang/String" "COMPACT_STRINGS" "Z" (.int G)) (hG : ¬ G = (0 : Int32)) (SA : Sta Z Z.heap "java/lang/StringUTF16" "$assertionsDisabled" "Z" (.int (1 : Int32))) (SH : Sta Z Z.heap "java/lang/StringUTF16" "HI_BYTE_SHIFT" "I" (.int (0 : Int32))) (SL : Sta Z Z.heap "java/lang/StringUTF16" "LO_BYTE_SHIFT" "I" (.int (8 : Int32))) (u0 : ¬ (255 : Int32) < c0) (V0 : OView Z n0 h0 (((a, Sum.inl ("java/lang/String", ns_String, [.null, (.int (0 : Int32))])) : Addr × OObj) :: ((q, Sum.inr (.char, [(.int c0)])) : Addr × OObj) :: F)) (O0 : Old Z n0 h0) :
    MetFree l (⟨"java/lang/String", "<init>", "([C)V"⟩ : MethodName) (head1 (Jvm.Cond.code (⟨"java/lang/String", "<init>", "([C)V"⟩ : MethodName) jdk_42_method_3_code 2 none :: ws) ({ frames := 3, cells := 1, slots := 1, locals := 52 } : Room)) (fun a_ U => a_ = #[(.ref a), (.ref q)] ∧ Z.Warmed39 U.vm ∧ U.heap = h0) (fun _ _ _ _ _ => True) (fun _ U o U' => ∃ v L, o = .returned v ∧ Q_i1_11 Z a q G c0 h0 n0 F v U'.heap L ∧ FrameEnd U o U' L ({ frames := 3, cells := 1, slots := 1, locals := 52 } : Room).cells ({ frames := 3, cells := 1, slots := 1, locals := 52 } : Room).slots) := by
  refine MetFree.of_bodySF (plainFor_of_name pn_8) hisR ?_
  intro p e s m args below meth c s₁ Bd hml0 hP hK
  obtain ⟨rfl, hZ, hh⟩ := hP
  have hx := Bd.exec
  have hby := Bd.bytes
  have hlk : meth.locks = false := Bd.notSynchronized
  have hml : c.maxLocals = 2 := hml0
  have hown : s.vm.findClass "java/lang/String" = some m.cls := findClass_of_methodNamed Bd.named
  have hnm := (name_of_methodNamed Bd.named Bd.method).1
  have X0 : Stand p l e ({ frames := 3, cells := 1, slots := 1, locals := 52 } : Room) s m #[(.ref a), (.ref q)] below meth c s₁ [] 0 0 := Stand.of_body Bd
  have e0 : s₁.heap = h0 := by rw [← hh, Bd.state]; rfl
  have N0 := Fr.nil n0
  show OGets p e below (OLeaves s (Q_i1_11 Z a q G c0 h0 n0 F ) ({ frames := 3, cells := 1, slots := 1, locals := 52 } : Room).cells ({ frames := 3, cells := 1, slots := 1, locals := 52 } : Room).slots) _
  refine OGets.enter (ef_i1_11 m a q) ?_
  show OGets p e below _ (s₁.setTop (mkF m 0 #[.val (.ref a), .val (.ref q)] []))
  refine OGets.step (fun _ => XS.aloadN X0.here hx rfl (hb hby dj42m3_0) rfl rfl) ?_
  refine OGets.step (fun _ => XS.aloadN X0.here hx rfl (hb hby dj42m3_1) rfl rfl) ?_
  refine OGets.step (fun _ => XS.iconst X0.here hx rfl (hb hby dj42m3_2)) ?_
  refine OGets.step (fun _ => XS.aloadN X0.here hx rfl (hb hby dj42m3_3) rfl rfl) ?_
  obtain ⟨cl64, Ar64, S64⟩ := V0.arr 1 rfl
  have ln64 : cl64.slots.size.toInt32 = (1 : Int32) := by rw [own_len S64]; rfl
  refine OGets.step (U' := s₁.setTop (mkF m 5 #[.val (.ref a), .val (.ref q)] [(.int (1 : Int32)), (.int (0 : Int32)), (.ref q), (.ref a)])) (fun t kt => ?_) ?_
  · refine X0.arraylength hx (by rw [e0]; exact Ar64.1) (State.isArrayOf_alike hZ.alike Ar64.2.1) (g := (mkF m 4 #[.val (.ref a), .val (.ref q)] [(.ref q), (.int (0 : Int32)), (.ref q), (.ref a)])) rfl rfl (hb hby dj42m3_4) _ ?_
    rw [ln64]; exact kt
  refine OGets.step (fun _ => XS.aconstNull X0.here hx rfl (hb hby dj42m3_5)) ?_
  show OGets p e below _ (s₁.setTop (mkF m 6 #[.val (.ref a), .val (.ref q)] [.null, (.int (1 : Int32)), (.int (0 : Int32)), (.ref q), (.ref a)]))
  obtain ⟨_, _, ⟨T65, L65, k65, n65⟩, -, X65, ⟨Lc65, hQ65, l65, y65, z65⟩, st65⟩ := X0.specialBack hx (y := (⟨"java/lang/String", "<init>", "([CIILjava/lang/Void;)V"⟩ : MethodName)) rfl hown (mvT hZ (hw _ (List.mem_of_getElem? (i := 13) rfl))) (mvT hZ (hw _ (List.mem_of_getElem? (i := 14) rfl))) (mvT hZ (hw _ (List.mem_of_getElem? (i := 16) rfl))) (by decide) (backOf (W := 0) (rm_i4_11 l Z a0 hw [] a q G c0 h0 n0 _ Z0 S0 hG SA SH SL u0 V0 O0) hZ (hw _ (List.mem_of_getElem? (i := 16) rfl)) (hw _ (List.mem_of_getElem? (i := 8) rfl)) (by decide) (by decide)) (g := (mkF m 6 #[.val (.ref a), .val (.ref q)] [.null, (.int (1 : Int32)), (.int (0 : Int32)), (.ref q), (.ref a)])) rfl (by rw [hml]; rfl) (Steps.refl _) (a := a) (argsL := [(.ref q), (.int (0 : Int32)), (.int (1 : Int32)), .null]) (rest := []) (lenOf pd_10 rfl) rfl (by show 2 * 0 + _ ≤ _; exact Nat.le_of_eq rfl) (hb hby dj42m3_6) (fun _ _ => ⟨rfl, e0, Nat.le_of_ble_eq_true rfl, Nat.le_of_ble_eq_true rfl⟩)
  dsimp only [Pt.U, Pt.locs, Pt.cells, Pt.slots] at X65 l65 y65 z65 st65 hQ65
  rw [l65, y65, z65] at X65
  obtain ⟨rfl, N65q, b65, V65, O65q⟩ := hQ65
  have N65 := Fr.app N0 N65q
  have V65v : OView Z n0 T65.heap (((a, Sum.inl ("java/lang/String", ns_String, [(.ref b65), (.int (0 : Int32))])) : Addr × OObj) :: ((b65, Sum.inr (.byte, [(.int (yb c0))])) : Addr × OObj) :: ((q, Sum.inr (.char, [(.int c0)])) : Addr × OObj) :: F) := V65
  have Z65 : n0 ≤ T65.heap.size := V65v.big 0 rfl
  refine OGets.after st65 ?_
  refine OGets.retV X65 hx hlk Bd.returns (hb hby dj42m3_9) (Nat.le_of_ble_eq_true rfl) (Nat.le_of_ble_eq_true rfl) ?_
  exact ⟨rfl, N65, b65, V65v, O65q⟩
theorem ef_nbl2 (m : MethodId) (x0 : Int32) : entryFrame m #[(.int x0)] 1 = mkF m 0 #[.val (.int x0)] [] := by first | (simp [entryFrame, mkF, argsToLocals, Value.category]; done) | rfl
def Q_nbl2 (Z : State)  (h0 : Heap) (n0 : Nat) (v : Option Value) (h : Heap) (L : List Loc) : Prop := v = some (.int (4 : Int32)) ∧ L = [] ∧ h = h0
set_option maxRecDepth 65536 in
set_option maxHeartbeats 40000000 in
theorem rm_nbl2 (l : Launch) (Z : State) (a0 : Array Value) (hw : ∀ d ∈ tables_1, d.before a0 Z = true) (ws : List Jvm.Cond)  (h0 : Heap) (n0 : Nat) (Z0 : n0 ≤ h0.size) :
    MetFree l (⟨"java/lang/StringUTF16", "newBytesLength", "(I)I"⟩ : MethodName) (head1 (Jvm.Cond.code (⟨"java/lang/StringUTF16", "newBytesLength", "(I)I"⟩ : MethodName) jdk_52_method_3_code 1 (some .int) :: ws) ({ frames := 0, cells := 0, slots := 0, locals := 0 } : Room)) (fun a_ U => a_ = #[(.int (2 : Int32))] ∧ Z.Warmed39 U.vm ∧ U.heap = h0) (fun _ _ _ _ _ => True) (fun _ U o U' => ∃ v L, o = .returned v ∧ Q_nbl2 Z  h0 n0 v U'.heap L ∧ FrameEnd U o U' L ({ frames := 0, cells := 0, slots := 0, locals := 0 } : Room).cells ({ frames := 0, cells := 0, slots := 0, locals := 0 } : Room).slots) := by
  refine MetFree.of_bodySF (plainFor_of_name pn_1) hisR ?_
  intro p e s m args below meth c s₁ Bd hml0 hP hK
  obtain ⟨rfl, hZ, hh⟩ := hP
  have hx := Bd.exec
  have hby := Bd.bytes
  have hlk : meth.locks = false := Bd.notSynchronized
  have hml : c.maxLocals = 1 := hml0
  have hown : s.vm.findClass "java/lang/StringUTF16" = some m.cls := findClass_of_methodNamed Bd.named
  have hnm := (name_of_methodNamed Bd.named Bd.method).1
  have X0 : Stand p l e ({ frames := 0, cells := 0, slots := 0, locals := 0 } : Room) s m #[(.int (2 : Int32))] below meth c s₁ [] 0 0 := Stand.of_body Bd
  have e0 : s₁.heap = h0 := by rw [← hh, Bd.state]; rfl
  have N0 := Fr.nil n0
  show OGets p e below (OLeaves s (Q_nbl2 Z  h0 n0 ) ({ frames := 0, cells := 0, slots := 0, locals := 0 } : Room).cells ({ frames := 0, cells := 0, slots := 0, locals := 0 } : Room).slots) _
  refine OGets.enter (ef_nbl2 m (2 : Int32)) ?_
  show OGets p e below _ (s₁.setTop (mkF m 0 #[.val (.int (2 : Int32))] []))
  refine OGets.step (fun _ => XS.iloadN X0.here hx rfl (hb hby dj52m3_0) rfl) ?_
  refine OGets.step (fun _ => XS.ifYes X0.here hx rfl (pc0 := 1) (pc' := 12) rfl (hb hby dj52m3_1) rfl ((if0 _ _).trans (flt (by decide : ¬ ((2 : Int32) < (0 : Int32)))).2.1) (by decide) (by decide)) ?_
  refine OGets.step (fun _ => XS.iloadN X0.here hx rfl (hb hby dj52m3_12) rfl) ?_
  refine OGets.step (fun _ => X0.ldcInt hx hown (mvT hZ (hw _ (List.mem_of_getElem? (i := 64) rfl))) (g := (mkF m 13 #[.val (.int (2 : Int32))] [(.int (2 : Int32))])) rfl (hb hby dj52m3_13) _) ?_
  refine OGets.step (fun _ => XS.icmpYes X0.here hx rfl (pc0 := 15) (pc' := 55) rfl (hb hby dj52m3_15) rfl (tlt (by decide : (2 : Int32) < (1073741823 : Int32))).1 (by decide) (by decide)) ?_
  refine OGets.step (fun _ => XS.iloadN X0.here hx rfl (hb hby dj52m3_55) rfl) ?_
  show OGets p e below _ (s₁.setTop (mkF m 56 #[.val (.int (2 : Int32))] [(.int (2 : Int32))]))
  refine OGets.step (fun _ => XS.iconst X0.here hx rfl (hb hby dj52m3_56)) ?_
  refine OGets.step (fun _ => XS.ishl X0.here hx rfl (hb hby dj52m3_57) rfl) ?_
  show OGets p e below _ (s₁.setTop (mkF m 58 #[.val (.int (2 : Int32))] [(.int ((2 : Int32) <<< ((1 : Int32) &&& 31)))]))
  rw [show ((2 : Int32) <<< ((1 : Int32) &&& 31)) = (4 : Int32) from by decide]
  show OGets p e below _ (s₁.setTop (mkF m 58 #[.val (.int (2 : Int32))] [(.int (4 : Int32))]))
  refine OGets.retI X0 hx hlk Bd.returns (hb hby dj52m3_58) (Nat.le_of_ble_eq_true rfl) (Nat.le_of_ble_eq_true rfl) ?_
  exact ⟨congrArg (fun z => some (Value.int z)) (show _ = (4 : Int32) from by decide), rfl, e0⟩
theorem ef_nbf2 (m : MethodId) (x0 : Int32) : entryFrame m #[(.int x0)] 1 = mkF m 0 #[.val (.int x0)] [] := by first | (simp [entryFrame, mkF, argsToLocals, Value.category]; done) | rfl
def Q_nbf2 (Z : State)  (h0 : Heap) (n0 : Nat) (F : List (Addr × OObj)) (v : Option Value) (h : Heap) (L : List Loc) : Prop := ∃ b : Addr, v = some (.ref b) ∧ Fr n0 L ∧ OView Z n0 h (((b, Sum.inr (.byte, [(.int (0 : Int32)), (.int (0 : Int32)), (.int (0 : Int32)), (.int (0 : Int32))])) : Addr × OObj) :: F) ∧ Old Z n0 h
set_option maxRecDepth 65536 in
set_option maxHeartbeats 40000000 in
theorem rm_nbf2 (l : Launch) (Z : State) (a0 : Array Value) (hw : ∀ d ∈ tables_1, d.before a0 Z = true) (ws : List Jvm.Cond)  (h0 : Heap) (n0 : Nat) (F : List (Addr × OObj)) (Z0 : n0 ≤ h0.size) (V0 : OView Z n0 h0 (F)) (O0 : Old Z n0 h0) :
    MetFree l (⟨"java/lang/StringUTF16", "newBytesFor", "(I)[B"⟩ : MethodName) (head1 (Jvm.Cond.code (⟨"java/lang/StringUTF16", "newBytesFor", "(I)[B"⟩ : MethodName) jdk_52_method_2_code 1 (some (.array .byte)) :: ws) ({ frames := 1, cells := 1, slots := 4, locals := 12 } : Room)) (fun a_ U => a_ = #[(.int (2 : Int32))] ∧ Z.Warmed39 U.vm ∧ U.heap = h0) (fun _ _ _ _ _ => True) (fun _ U o U' => ∃ v L, o = .returned v ∧ Q_nbf2 Z  h0 n0 F v U'.heap L ∧ FrameEnd U o U' L ({ frames := 1, cells := 1, slots := 4, locals := 12 } : Room).cells ({ frames := 1, cells := 1, slots := 4, locals := 12 } : Room).slots) := by
  refine MetFree.of_bodySF (plainFor_of_name pn_1) hisR ?_
  intro p e s m args below meth c s₁ Bd hml0 hP hK
  obtain ⟨rfl, hZ, hh⟩ := hP
  have hx := Bd.exec
  have hby := Bd.bytes
  have hlk : meth.locks = false := Bd.notSynchronized
  have hml : c.maxLocals = 1 := hml0
  have hown : s.vm.findClass "java/lang/StringUTF16" = some m.cls := findClass_of_methodNamed Bd.named
  have hnm := (name_of_methodNamed Bd.named Bd.method).1
  have X0 : Stand p l e ({ frames := 1, cells := 1, slots := 4, locals := 12 } : Room) s m #[(.int (2 : Int32))] below meth c s₁ [] 0 0 := Stand.of_body Bd
  have e0 : s₁.heap = h0 := by rw [← hh, Bd.state]; rfl
  have N0 := Fr.nil n0
  show OGets p e below (OLeaves s (Q_nbf2 Z  h0 n0 F ) ({ frames := 1, cells := 1, slots := 4, locals := 12 } : Room).cells ({ frames := 1, cells := 1, slots := 4, locals := 12 } : Room).slots) _
  refine OGets.enter (ef_nbf2 m (2 : Int32)) ?_
  show OGets p e below _ (s₁.setTop (mkF m 0 #[.val (.int (2 : Int32))] []))
  refine OGets.step (fun _ => XS.iloadN X0.here hx rfl (hb hby dj52m2_0) rfl) ?_
  obtain ⟨_, _, ⟨T68, L68, k68, n68⟩, -, X68, ⟨Lc68, hQ68, l68, y68, z68⟩, st68⟩ := Jvm.LawKit.callS X0 hx (y := (⟨"java/lang/StringUTF16", "newBytesLength", "(I)I"⟩ : MethodName)) hown (mvT hZ (hw _ (List.mem_of_getElem? (i := 61) rfl))) (mvT hZ (hw _ (List.mem_of_getElem? (i := 62) rfl))) (mvT hZ (hw _ (List.mem_of_getElem? (i := 47) rfl))) (mvT hZ (hw _ (List.mem_of_getElem? (i := 63) rfl))) (by decide) (backOf (W := 0) (rm_nbl2 l Z a0 hw []  h0 n0  Z0 ) hZ (hw _ (List.mem_of_getElem? (i := 63) rfl)) (hw _ (List.mem_of_getElem? (i := 47) rfl)) (by decide) (by decide)) (g := (mkF m 1 #[.val (.int (2 : Int32))] [(.int (2 : Int32))])) rfl (by rw [hml]; rfl) (argsL := [(.int (2 : Int32))]) (rest := []) (lenOf pd_2 rfl) rfl (by show 2 * 0 + _ ≤ _; exact Nat.le_of_eq rfl) (hb hby dj52m2_1) (fun _ _ => ⟨rfl, e0, Nat.le_of_ble_eq_true rfl, Nat.le_of_ble_eq_true rfl⟩)
  dsimp only [Pt.U, Pt.locs, Pt.cells, Pt.slots] at X68 l68 y68 z68 st68 hQ68
  rw [l68, y68, z68] at X68
  obtain ⟨rfl, rfl, e68⟩ := hQ68
  have N68 := Fr.app N0 (Fr.nil n0)
  refine OGets.step st68 ?_
  obtain ⟨T69, h69, k69, X69, e69, E69, A69, st69⟩ := newP X68 hx hZ (hw _ (List.mem_of_getElem? (i := 21) rfl)) e68 (g := (mkF m 4 #[.val (.int (2 : Int32))] [(.int (4 : Int32))])) rfl (hb hby dj52m2_4) rfl (by decide) (cap := 4) (by decide) (by decide) (by decide) (by decide)
  have V69' := V0.newArr Z0 E69 A69 4 rfl
  have Z69 : n0 ≤ h69.size := Nat.le_trans Z0 E69.1
  obtain ⟨b69, g69⟩ : ∃ z, z = h0.size := ⟨_, rfl⟩
  rw [← g69] at V69' st69
  have V69 : OView Z n0 h69 (((b69, Sum.inr (.byte, [(.int (0 : Int32)), (.int (0 : Int32)), (.int (0 : Int32)), (.int (0 : Int32))])) : Addr × OObj) :: F) := V69'
  have O69 := O0.ext E69
  refine OGets.step st69 ?_
  refine OGets.retA X69 hx hlk (t := (.array .byte)) Bd.returns rfl rfl rfl (hb hby dj52m2_6) (Nat.le_of_ble_eq_true rfl) (Nat.le_of_ble_eq_true rfl) ?_
  rw [e69]
  exact ⟨b69, rfl, N68, V69, O69⟩
theorem ef_pch20 (m : MethodId) (x0 : Addr) (x1 : Int32) (x2 : Int32) : entryFrame m #[(.ref x0), (.int x1), (.int x2)] 3 = mkF m 0 #[.val (.ref x0), .val (.int x1), .val (.int x2)] [] := by first | (simp [entryFrame, mkF, argsToLocals, Value.category]; done) | rfl
def Q_pch20 (Z : State) (b : Addr) (x : Int32) (h0 : Heap) (n0 : Nat) (F : List (Addr × OObj)) (v : Option Value) (h : Heap) (L : List Loc) : Prop := v = none ∧ Fr n0 L ∧ OView Z n0 h (((b, Sum.inr (.byte, [(.int (hb' x)), (.int (lb' x)), (.int (0 : Int32)), (.int (0 : Int32))])) : Addr × OObj) :: F) ∧ Old Z n0 h
set_option maxRecDepth 65536 in
set_option maxHeartbeats 40000000 in
theorem rm_pch20 (l : Launch) (Z : State) (a0 : Array Value) (hw : ∀ d ∈ tables_1, d.before a0 Z = true) (ws : List Jvm.Cond) (b : Addr) (x : Int32) (h0 : Heap) (n0 : Nat) (F : List (Addr × OObj)) (Z0 : n0 ≤ h0.size) (SA : Sta Z Z.heap "java/lang/StringUTF16" "$assertionsDisabled" "Z" (.int (1 : Int32))) (SH : Sta Z Z.heap "java/lang/StringUTF16" "HI_BYTE_SHIFT" "I" (.int (0 : Int32))) (SL : Sta Z Z.heap "java/lang/StringUTF16" "LO_BYTE_SHIFT" "I" (.int (8 : Int32))) (V0 : OView Z n0 h0 (((b, Sum.inr (.byte, [(.int (0 : Int32)), (.int (0 : Int32)), (.int (0 : Int32)), (.int (0 : Int32))])) : Addr × OObj) :: F)) (O0 : Old Z n0 h0) :
    MetFree l (⟨"java/lang/StringUTF16", "putChar", "([BII)V"⟩ : MethodName) (head1 (Jvm.Cond.code (⟨"java/lang/StringUTF16", "putChar", "([BII)V"⟩ : MethodName) jdk_52_method_4_code 3 none :: ws) ({ frames := 0, cells := 0, slots := 0, locals := 0 } : Room)) (fun a_ U => a_ = #[(.ref b), (.int (0 : Int32)), (.int x)] ∧ Z.Warmed39 U.vm ∧ U.heap = h0) (fun _ _ _ _ _ => True) (fun _ U o U' => ∃ v L, o = .returned v ∧ Q_pch20 Z b x h0 n0 F v U'.heap L ∧ FrameEnd U o U' L ({ frames := 0, cells := 0, slots := 0, locals := 0 } : Room).cells ({ frames := 0, cells := 0, slots := 0, locals := 0 } : Room).slots) := by
  refine MetFree.of_bodySF (plainFor_of_name pn_1) hisR ?_
  intro p e s m args below meth c s₁ Bd hml0 hP hK
  obtain ⟨rfl, hZ, hh⟩ := hP
  have hx := Bd.exec
  have hby := Bd.bytes
  have hlk : meth.locks = false := Bd.notSynchronized
  have hml : c.maxLocals = 3 := hml0
  have hown : s.vm.findClass "java/lang/StringUTF16" = some m.cls := findClass_of_methodNamed Bd.named
  have hnm := (name_of_methodNamed Bd.named Bd.method).1
  have X0 : Stand p l e ({ frames := 0, cells := 0, slots := 0, locals := 0 } : Room) s m #[(.ref b), (.int (0 : Int32)), (.int x)] below meth c s₁ [] 0 0 := Stand.of_body Bd
  have e0 : s₁.heap = h0 := by rw [← hh, Bd.state]; rfl
  have N0 := Fr.nil n0
  show OGets p e below (OLeaves s (Q_pch20 Z b x h0 n0 F ) ({ frames := 0, cells := 0, slots := 0, locals := 0 } : Room).cells ({ frames := 0, cells := 0, slots := 0, locals := 0 } : Room).slots) _
  refine OGets.enter (ef_pch20 m b (0 : Int32) x) ?_
  show OGets p e below _ (s₁.setTop (mkF m 0 #[.val (.ref b), .val (.int (0 : Int32)), .val (.int x)] []))
  obtain ⟨T70, X70, e70, st70⟩ := getS2 X0 hx hZ hown (host := "") (Or.inl (hw _ (List.mem_of_getElem? (i := 68) rfl))) Via.refl e0 (SA.ext O0.2) (g := (mkF m 0 #[.val (.ref b), .val (.int (0 : Int32)), .val (.int x)] [])) rfl (hb hby dj52m4_0)
  refine OGets.step st70 ?_
  refine OGets.step (fun _ => XS.ifYes X70.here hx rfl (pc0 := 3) (pc' := 28) rfl (hb hby dj52m4_3) rfl ((if0 _ _).trans (feq (by decide : ¬ ((1 : Int32) = (0 : Int32)))).2) (by decide) (by decide)) ?_
  refine OGets.step (fun _ => XS.iloadN X70.here hx rfl (hb hby dj52m4_28) rfl) ?_
  refine OGets.step (fun _ => XS.iconst X70.here hx rfl (hb hby dj52m4_29)) ?_
  refine OGets.step (fun _ => XS.ishl X70.here hx rfl (hb hby dj52m4_30) rfl) ?_
  show OGets p e below _ (T70.setTop (mkF m 31 #[.val (.ref b), .val (.int (0 : Int32)), .val (.int x)] [(.int ((0 : Int32) <<< ((1 : Int32) &&& 31)))]))
  rw [show ((0 : Int32) <<< ((1 : Int32) &&& 31)) = (0 : Int32) from by decide]
  show OGets p e below _ (T70.setTop (mkF m 31 #[.val (.ref b), .val (.int (0 : Int32)), .val (.int x)] [(.int (0 : Int32))]))
  refine OGets.step (fun _ => XS.istoreN X70.here hx rfl (hb hby dj52m4_31) rfl (l' := #[.val (.ref b), .val (.int (0 : Int32)), .val (.int x)]) rfl) ?_
  refine OGets.step (fun _ => XS.aloadN X70.here hx rfl (hb hby dj52m4_32) rfl rfl) ?_
  refine OGets.step (fun _ => XS.iloadN X70.here hx rfl (hb hby dj52m4_33) rfl) ?_
  refine OGets.step (fun _ => XS.iinc X70.here hx rfl (hb hby dj52m4_34) rfl (l' := #[.val (.ref b), .val (.int (1 : Int32)), .val (.int x)]) rfl) ?_
  refine OGets.step (fun _ => XS.iloadN X70.here hx rfl (hb hby dj52m4_37) rfl) ?_
  obtain ⟨T72, X72, e72, st72⟩ := getS2 X70 hx hZ hown (host := "") (Or.inl (hw _ (List.mem_of_getElem? (i := 69) rfl))) Via.refl e70 (SH.ext O0.2) (g := (mkF m 38 #[.val (.ref b), .val (.int (1 : Int32)), .val (.int x)] [(.int x), (.int (0 : Int32)), (.ref b)])) rfl (hb hby dj52m4_38)
  refine OGets.step st72 ?_
  refine OGets.step (fun _ => XS.ishr X72.here hx rfl (hb hby dj52m4_41) rfl) ?_
  refine OGets.step (fun _ => XS.i2b X72.here hx rfl (hb hby dj52m4_42) rfl) ?_
  obtain ⟨cl73, Ar73, S73⟩ := V0.arr 0 rfl
  obtain ⟨T73, h73, X73, e73, W73', st73⟩ := stB X72 hx hZ e72 Ar73 (j := (0 : Int32)) (own_inb S73 0 (by decide) (Nat.le_of_ble_eq_true rfl)) (g := (mkF m 43 #[.val (.ref b), .val (.int (1 : Int32)), .val (.int x)] [(.int ((x >>> ((0 : Int32) &&& 31)).toInt8.toInt32)), (.int (0 : Int32)), (.ref b)])) rfl rfl (hb hby dj52m4_43)
  have W73 := own_wr (vs := []) 0 (by decide) W73'
  have V73 : OView Z n0 h73 (((b, Sum.inr (.byte, [(.int (hb' x)), (.int (0 : Int32)), (.int (0 : Int32)), (.int (0 : Int32))])) : Addr × OObj) :: F) := V0.putA 0 rfl W73
  have N73 := Fr.snoc X73 N0 (V0.old 0 rfl)
  have Z73 : n0 ≤ h73.size := by rw [W73.size]; exact Z0
  have O73 := O0.wr W73 (V0.old 0 rfl)
  refine OGets.step st73 ?_
  refine OGets.step (fun _ => XS.aloadN X73.here hx rfl (hb hby dj52m4_44) rfl rfl) ?_
  refine OGets.step (fun _ => XS.iloadN X73.here hx rfl (hb hby dj52m4_45) rfl) ?_
  refine OGets.step (fun _ => XS.iloadN X73.here hx rfl (hb hby dj52m4_46) rfl) ?_
  obtain ⟨T74, X74, e74, st74⟩ := getS2 X73 hx hZ hown (host := "") (Or.inl (hw _ (List.mem_of_getElem? (i := 70) rfl))) Via.refl e73 (SL.ext O73.2) (g := (mkF m 47 #[.val (.ref b), .val (.int (1 : Int32)), .val (.int x)] [(.int x), (.int (1 : Int32)), (.ref b)])) rfl (hb hby dj52m4_47)
  refine OGets.step st74 ?_
  refine OGets.step (fun _ => XS.ishr X74.here hx rfl (hb hby dj52m4_50) rfl) ?_
  refine OGets.step (fun _ => XS.i2b X74.here hx rfl (hb hby dj52m4_51) rfl) ?_
  obtain ⟨cl75, Ar75, S75⟩ := V73.arr 0 rfl
  obtain ⟨T75, h75, X75, e75, W75', st75⟩ := stB X74 hx hZ e74 Ar75 (j := (1 : Int32)) (own_inb S75 1 (by decide) (Nat.le_of_ble_eq_true rfl)) (g := (mkF m 52 #[.val (.ref b), .val (.int (1 : Int32)), .val (.int x)] [(.int ((x >>> ((8 : Int32) &&& 31)).toInt8.toInt32)), (.int (1 : Int32)), (.ref b)])) rfl rfl (hb hby dj52m4_52)
  have W75 := own_wr (vs := []) 1 (by decide) W75'
  have V75 : OView Z n0 h75 (((b, Sum.inr (.byte, [(.int (hb' x)), (.int (lb' x)), (.int (0 : Int32)), (.int (0 : Int32))])) : Addr × OObj) :: F) := V73.putA 0 rfl W75
  have N75 := Fr.snoc X75 N73 (V73.old 0 rfl)
  have Z75 : n0 ≤ h75.size := by rw [W75.size]; exact Z73
  have O75 := O73.wr W75 (V73.old 0 rfl)
  refine OGets.step st75 ?_
  refine OGets.retV X75 hx hlk Bd.returns (hb hby dj52m4_53) (Nat.le_of_ble_eq_true rfl) (Nat.le_of_ble_eq_true rfl) ?_
  rw [e75]
  exact ⟨rfl, N75, V75, O75⟩
theorem ef_pch21 (m : MethodId) (x0 : Addr) (x1 : Int32) (x2 : Int32) : entryFrame m #[(.ref x0), (.int x1), (.int x2)] 3 = mkF m 0 #[.val (.ref x0), .val (.int x1), .val (.int x2)] [] := by first | (simp [entryFrame, mkF, argsToLocals, Value.category]; done) | rfl
def Q_pch21 (Z : State) (b : Addr) (x : Int32) (y0 : Int32) (y1 : Int32) (h0 : Heap) (n0 : Nat) (F : List (Addr × OObj)) (v : Option Value) (h : Heap) (L : List Loc) : Prop := v = none ∧ Fr n0 L ∧ OView Z n0 h (((b, Sum.inr (.byte, [(.int y0), (.int y1), (.int (hb' x)), (.int (lb' x))])) : Addr × OObj) :: F) ∧ Old Z n0 h
set_option maxRecDepth 65536 in
set_option maxHeartbeats 40000000 in
theorem rm_pch21 (l : Launch) (Z : State) (a0 : Array Value) (hw : ∀ d ∈ tables_1, d.before a0 Z = true) (ws : List Jvm.Cond) (b : Addr) (x : Int32) (y0 : Int32) (y1 : Int32) (h0 : Heap) (n0 : Nat) (F : List (Addr × OObj)) (Z0 : n0 ≤ h0.size) (SA : Sta Z Z.heap "java/lang/StringUTF16" "$assertionsDisabled" "Z" (.int (1 : Int32))) (SH : Sta Z Z.heap "java/lang/StringUTF16" "HI_BYTE_SHIFT" "I" (.int (0 : Int32))) (SL : Sta Z Z.heap "java/lang/StringUTF16" "LO_BYTE_SHIFT" "I" (.int (8 : Int32))) (V0 : OView Z n0 h0 (((b, Sum.inr (.byte, [(.int y0), (.int y1), (.int (0 : Int32)), (.int (0 : Int32))])) : Addr × OObj) :: F)) (O0 : Old Z n0 h0) :
    MetFree l (⟨"java/lang/StringUTF16", "putChar", "([BII)V"⟩ : MethodName) (head1 (Jvm.Cond.code (⟨"java/lang/StringUTF16", "putChar", "([BII)V"⟩ : MethodName) jdk_52_method_4_code 3 none :: ws) ({ frames := 0, cells := 0, slots := 0, locals := 0 } : Room)) (fun a_ U => a_ = #[(.ref b), (.int (1 : Int32)), (.int x)] ∧ Z.Warmed39 U.vm ∧ U.heap = h0) (fun _ _ _ _ _ => True) (fun _ U o U' => ∃ v L, o = .returned v ∧ Q_pch21 Z b x y0 y1 h0 n0 F v U'.heap L ∧ FrameEnd U o U' L ({ frames := 0, cells := 0, slots := 0, locals := 0 } : Room).cells ({ frames := 0, cells := 0, slots := 0, locals := 0 } : Room).slots) := by
  refine MetFree.of_bodySF (plainFor_of_name pn_1) hisR ?_
  intro p e s m args below meth c s₁ Bd hml0 hP hK
  obtain ⟨rfl, hZ, hh⟩ := hP
  have hx := Bd.exec
  have hby := Bd.bytes
  have hlk : meth.locks = false := Bd.notSynchronized
  have hml : c.maxLocals = 3 := hml0
  have hown : s.vm.findClass "java/lang/StringUTF16" = some m.cls := findClass_of_methodNamed Bd.named
  have hnm := (name_of_methodNamed Bd.named Bd.method).1
  have X0 : Stand p l e ({ frames := 0, cells := 0, slots := 0, locals := 0 } : Room) s m #[(.ref b), (.int (1 : Int32)), (.int x)] below meth c s₁ [] 0 0 := Stand.of_body Bd
  have e0 : s₁.heap = h0 := by rw [← hh, Bd.state]; rfl
  have N0 := Fr.nil n0
  show OGets p e below (OLeaves s (Q_pch21 Z b x y0 y1 h0 n0 F ) ({ frames := 0, cells := 0, slots := 0, locals := 0 } : Room).cells ({ frames := 0, cells := 0, slots := 0, locals := 0 } : Room).slots) _
  refine OGets.enter (ef_pch21 m b (1 : Int32) x) ?_
  show OGets p e below _ (s₁.setTop (mkF m 0 #[.val (.ref b), .val (.int (1 : Int32)), .val (.int x)] []))
  obtain ⟨T76, X76, e76, st76⟩ := getS2 X0 hx hZ hown (host := "") (Or.inl (hw _ (List.mem_of_getElem? (i := 68) rfl))) Via.refl e0 (SA.ext O0.2) (g := (mkF m 0 #[.val (.ref b), .val (.int (1 : Int32)), .val (.int x)] [])) rfl (hb hby dj52m4_0)
  refine OGets.step st76 ?_
  refine OGets.step (fun _ => XS.ifYes X76.here hx rfl (pc0 := 3) (pc' := 28) rfl (hb hby dj52m4_3) rfl ((if0 _ _).trans (feq (by decide : ¬ ((1 : Int32) = (0 : Int32)))).2) (by decide) (by decide)) ?_
  refine OGets.step (fun _ => XS.iloadN X76.here hx rfl (hb hby dj52m4_28) rfl) ?_
  refine OGets.step (fun _ => XS.iconst X76.here hx rfl (hb hby dj52m4_29)) ?_
  refine OGets.step (fun _ => XS.ishl X76.here hx rfl (hb hby dj52m4_30) rfl) ?_
  show OGets p e below _ (T76.setTop (mkF m 31 #[.val (.ref b), .val (.int (1 : Int32)), .val (.int x)] [(.int ((1 : Int32) <<< ((1 : Int32) &&& 31)))]))
  rw [show ((1 : Int32) <<< ((1 : Int32) &&& 31)) = (2 : Int32) from by decide]
  show OGets p e below _ (T76.setTop (mkF m 31 #[.val (.ref b), .val (.int (1 : Int32)), .val (.int x)] [(.int (2 : Int32))]))
  refine OGets.step (fun _ => XS.istoreN X76.here hx rfl (hb hby dj52m4_31) rfl (l' := #[.val (.ref b), .val (.int (2 : Int32)), .val (.int x)]) rfl) ?_
  refine OGets.step (fun _ => XS.aloadN X76.here hx rfl (hb hby dj52m4_32) rfl rfl) ?_
  refine OGets.step (fun _ => XS.iloadN X76.here hx rfl (hb hby dj52m4_33) rfl) ?_
  refine OGets.step (fun _ => XS.iinc X76.here hx rfl (hb hby dj52m4_34) rfl (l' := #[.val (.ref b), .val (.int (3 : Int32)), .val (.int x)]) rfl) ?_
  refine OGets.step (fun _ => XS.iloadN X76.here hx rfl (hb hby dj52m4_37) rfl) ?_
  obtain ⟨T78, X78, e78, st78⟩ := getS2 X76 hx hZ hown (host := "") (Or.inl (hw _ (List.mem_of_getElem? (i := 69) rfl))) Via.refl e76 (SH.ext O0.2) (g := (mkF m 38 #[.val (.ref b), .val (.int (3 : Int32)), .val (.int x)] [(.int x), (.int (2 : Int32)), (.ref b)])) rfl (hb hby dj52m4_38)
  refine OGets.step st78 ?_
  refine OGets.step (fun _ => XS.ishr X78.here hx rfl (hb hby dj52m4_41) rfl) ?_
  refine OGets.step (fun _ => XS.i2b X78.here hx rfl (hb hby dj52m4_42) rfl) ?_
  obtain ⟨cl79, Ar79, S79⟩ := V0.arr 0 rfl
  obtain ⟨T79, h79, X79, e79, W79', st79⟩ := stB X78 hx hZ e78 Ar79 (j := (2 : Int32)) (own_inb S79 2 (by decide) (Nat.le_of_ble_eq_true rfl)) (g := (mkF m 43 #[.val (.ref b), .val (.int (3 : Int32)), .val (.int x)] [(.int ((x >>> ((0 : Int32) &&& 31)).toInt8.toInt32)), (.int (2 : Int32)), (.ref b)])) rfl rfl (hb hby dj52m4_43)
  have W79 := own_wr (vs := []) 2 (by decide) W79'
  have V79 : OView Z n0 h79 (((b, Sum.inr (.byte, [(.int y0), (.int y1), (.int (hb' x)), (.int (0 : Int32))])) : Addr × OObj) :: F) := V0.putA 0 rfl W79
  have N79 := Fr.snoc X79 N0 (V0.old 0 rfl)
  have Z79 : n0 ≤ h79.size := by rw [W79.size]; exact Z0
  have O79 := O0.wr W79 (V0.old 0 rfl)
  refine OGets.step st79 ?_
  refine OGets.step (fun _ => XS.aloadN X79.here hx rfl (hb hby dj52m4_44) rfl rfl) ?_
  refine OGets.step (fun _ => XS.iloadN X79.here hx rfl (hb hby dj52m4_45) rfl) ?_
  refine OGets.step (fun _ => XS.iloadN X79.here hx rfl (hb hby dj52m4_46) rfl) ?_
  obtain ⟨T80, X80, e80, st80⟩ := getS2 X79 hx hZ hown (host := "") (Or.inl (hw _ (List.mem_of_getElem? (i := 70) rfl))) Via.refl e79 (SL.ext O79.2) (g := (mkF m 47 #[.val (.ref b), .val (.int (3 : Int32)), .val (.int x)] [(.int x), (.int (3 : Int32)), (.ref b)])) rfl (hb hby dj52m4_47)
  refine OGets.step st80 ?_
  refine OGets.step (fun _ => XS.ishr X80.here hx rfl (hb hby dj52m4_50) rfl) ?_
  refine OGets.step (fun _ => XS.i2b X80.here hx rfl (hb hby dj52m4_51) rfl) ?_
  obtain ⟨cl81, Ar81, S81⟩ := V79.arr 0 rfl
  obtain ⟨T81, h81, X81, e81, W81', st81⟩ := stB X80 hx hZ e80 Ar81 (j := (3 : Int32)) (own_inb S81 3 (by decide) (Nat.le_of_ble_eq_true rfl)) (g := (mkF m 52 #[.val (.ref b), .val (.int (3 : Int32)), .val (.int x)] [(.int ((x >>> ((8 : Int32) &&& 31)).toInt8.toInt32)), (.int (3 : Int32)), (.ref b)])) rfl rfl (hb hby dj52m4_52)
  have W81 := own_wr (vs := []) 3 (by decide) W81'
  have V81 : OView Z n0 h81 (((b, Sum.inr (.byte, [(.int y0), (.int y1), (.int (hb' x)), (.int (lb' x))])) : Addr × OObj) :: F) := V79.putA 0 rfl W81
  have N81 := Fr.snoc X81 N79 (V79.old 0 rfl)
  have Z81 : n0 ≤ h81.size := by rw [W81.size]; exact Z79
  have O81 := O79.wr W81 (V79.old 0 rfl)
  refine OGets.step st81 ?_
  refine OGets.retV X81 hx hlk Bd.returns (hb hby dj52m4_53) (Nat.le_of_ble_eq_true rfl) (Nat.le_of_ble_eq_true rfl) ?_
  rw [e81]
  exact ⟨rfl, N81, V81, O81⟩
theorem ef_tob2 (m : MethodId) (x0 : Addr) (x1 : Int32) (x2 : Int32) : entryFrame m #[(.ref x0), (.int x1), (.int x2)] 5 = mkF m 0 #[.val (.ref x0), .val (.int x1), .val (.int x2), .unset, .unset] [] := by first | (simp [entryFrame, mkF, argsToLocals, Value.category]; done) | rfl
def Q_tob2 (Z : State) (a : Addr) (c0 : Int32) (c1 : Int32) (h0 : Heap) (n0 : Nat) (F : List (Addr × OObj)) (v : Option Value) (h : Heap) (L : List Loc) : Prop := ∃ b : Addr, v = some (.ref b) ∧ Fr n0 L ∧ OView Z n0 h (((b, Sum.inr (.byte, [(.int (hb' c0)), (.int (lb' c0)), (.int (hb' c1)), (.int (lb' c1))])) : Addr × OObj) :: ((a, Sum.inr (.char, [(.int c0), (.int c1)])) : Addr × OObj) :: F) ∧ Old Z n0 h
set_option maxRecDepth 65536 in
set_option maxHeartbeats 40000000 in
theorem rm_tob2 (l : Launch) (Z : State) (a0 : Array Value) (hw : ∀ d ∈ tables_1, d.before a0 Z = true) (ws : List Jvm.Cond) (a : Addr) (c0 : Int32) (c1 : Int32) (h0 : Heap) (n0 : Nat) (F : List (Addr × OObj)) (Z0 : n0 ≤ h0.size) (SA : Sta Z Z.heap "java/lang/StringUTF16" "$assertionsDisabled" "Z" (.int (1 : Int32))) (SH : Sta Z Z.heap "java/lang/StringUTF16" "HI_BYTE_SHIFT" "I" (.int (0 : Int32))) (SL : Sta Z Z.heap "java/lang/StringUTF16" "LO_BYTE_SHIFT" "I" (.int (8 : Int32))) (V0 : OView Z n0 h0 (((a, Sum.inr (.char, [(.int c0), (.int c1)])) : Addr × OObj) :: F)) (O0 : Old Z n0 h0) :
    MetFree l (⟨"java/lang/StringUTF16", "toBytes", "([CII)[B"⟩ : MethodName) (head1 (Jvm.Cond.code (⟨"java/lang/StringUTF16", "toBytes", "([CII)[B"⟩ : MethodName) jdk_52_method_14_code 5 (some (.array .byte)) :: ws) ({ frames := 2, cells := 1, slots := 4, locals := 24 } : Room)) (fun a_ U => a_ = #[(.ref a), (.int (0 : Int32)), (.int (2 : Int32))] ∧ Z.Warmed39 U.vm ∧ U.heap = h0) (fun _ _ _ _ _ => True) (fun _ U o U' => ∃ v L, o = .returned v ∧ Q_tob2 Z a c0 c1 h0 n0 F v U'.heap L ∧ FrameEnd U o U' L ({ frames := 2, cells := 1, slots := 4, locals := 24 } : Room).cells ({ frames := 2, cells := 1, slots := 4, locals := 24 } : Room).slots) := by
  refine MetFree.of_bodySF (plainFor_of_name pn_1) hisR ?_
  intro p e s m args below meth c s₁ Bd hml0 hP hK
  obtain ⟨rfl, hZ, hh⟩ := hP
  have hx := Bd.exec
  have hby := Bd.bytes
  have hlk : meth.locks = false := Bd.notSynchronized
  have hml : c.maxLocals = 5 := hml0
  have hown : s.vm.findClass "java/lang/StringUTF16" = some m.cls := findClass_of_methodNamed Bd.named
  have hnm := (name_of_methodNamed Bd.named Bd.method).1
  have X0 : Stand p l e ({ frames := 2, cells := 1, slots := 4, locals := 24 } : Room) s m #[(.ref a), (.int (0 : Int32)), (.int (2 : Int32))] below meth c s₁ [] 0 0 := Stand.of_body Bd
  have e0 : s₁.heap = h0 := by rw [← hh, Bd.state]; rfl
  have N0 := Fr.nil n0
  show OGets p e below (OLeaves s (Q_tob2 Z a c0 c1 h0 n0 F ) ({ frames := 2, cells := 1, slots := 4, locals := 24 } : Room).cells ({ frames := 2, cells := 1, slots := 4, locals := 24 } : Room).slots) _
  refine OGets.enter (ef_tob2 m a (0 : Int32) (2 : Int32)) ?_
  show OGets p e below _ (s₁.setTop (mkF m 0 #[.val (.ref a), .val (.int (0 : Int32)), .val (.int (2 : Int32)), .unset, .unset] []))
  refine OGets.step (fun _ => XS.iloadN X0.here hx rfl (hb hby dj52m14_0) rfl) ?_
  obtain ⟨_, _, ⟨T82, L82, k82, n82⟩, -, X82, ⟨Lc82, hQ82, l82, y82, z82⟩, st82⟩ := Jvm.LawKit.callS X0 hx (y := (⟨"java/lang/StringUTF16", "newBytesFor", "(I)[B"⟩ : MethodName)) hown (mvT hZ (hw _ (List.mem_of_getElem? (i := 58) rfl))) (mvT hZ (hw _ (List.mem_of_getElem? (i := 59) rfl))) (mvT hZ (hw _ (List.mem_of_getElem? (i := 47) rfl))) (mvT hZ (hw _ (List.mem_of_getElem? (i := 60) rfl))) (by decide) (backOf (W := 0) (rm_nbf2 l Z a0 hw []  h0 n0 _ Z0  V0 O0) hZ (hw _ (List.mem_of_getElem? (i := 60) rfl)) (hw _ (List.mem_of_getElem? (i := 47) rfl)) (by decide) (by decide)) (g := (mkF m 1 #[.val (.ref a), .val (.int (0 : Int32)), .val (.int (2 : Int32)), .unset, .unset] [(.int (2 : Int32))])) rfl (by rw [hml]; rfl) (argsL := [(.int (2 : Int32))]) (rest := []) (lenOf pd_3 rfl) rfl (by show 2 * 0 + _ ≤ _; exact Nat.le_of_eq rfl) (hb hby dj52m14_1) (fun _ _ => ⟨rfl, e0, Nat.le_of_ble_eq_true rfl, Nat.le_of_ble_eq_true rfl⟩)
  dsimp only [Pt.U, Pt.locs, Pt.cells, Pt.slots] at X82 l82 y82 z82 st82 hQ82
  rw [l82, y82, z82] at X82
  obtain ⟨b82, rfl, N82q, V82, O82q⟩ := hQ82
  have N82 := Fr.app N0 N82q
  have V82v : OView Z n0 T82.heap (((b82, Sum.inr (.byte, [(.int (0 : Int32)), (.int (0 : Int32)), (.int (0 : Int32)), (.int (0 : Int32))])) : Addr × OObj) :: ((a, Sum.inr (.char, [(.int c0), (.int c1)])) : Addr × OObj) :: F) := V82
  have Z82 : n0 ≤ T82.heap.size := V82v.big 0 rfl
  refine OGets.step st82 ?_
  refine OGets.step (fun _ => XS.astoreN X82.here hx rfl (hb hby dj52m14_4) rfl rfl (l' := #[.val (.ref a), .val (.int (0 : Int32)), .val (.int (2 : Int32)), .val (.ref b82), .unset]) rfl) ?_
  refine OGets.step (fun _ => XS.iconst X82.here hx rfl (hb hby dj52m14_5)) ?_
  refine OGets.step (fun _ => XS.istore X82.here hx rfl (hb hby dj52m14_6) rfl (l' := #[.val (.ref a), .val (.int (0 : Int32)), .val (.int (2 : Int32)), .val (.ref b82), .val (.int (0 : Int32))]) rfl) ?_
  refine OGets.step (fun _ => XS.iload X82.here hx rfl (hb hby dj52m14_8) rfl) ?_
  refine OGets.step (fun _ => XS.iloadN X82.here hx rfl (hb hby dj52m14_10) rfl) ?_
  show OGets p e below _ (T82.setTop (mkF m 11 #[.val (.ref a), .val (.int (0 : Int32)), .val (.int (2 : Int32)), .val (.ref b82), .val (.int (0 : Int32))] [(.int (2 : Int32)), (.int (0 : Int32))]))
  refine OGets.step (fun _ => XS.icmpNo X82.here hx rfl (hb hby dj52m14_11) rfl (tlt (by decide : (0 : Int32) < (2 : Int32))).2.1) ?_
  refine OGets.step (fun _ => XS.aloadN X82.here hx rfl (hb hby dj52m14_14) rfl rfl) ?_
  refine OGets.step (fun _ => XS.iload X82.here hx rfl (hb hby dj52m14_15) rfl) ?_
  refine OGets.step (fun _ => XS.aloadN X82.here hx rfl (hb hby dj52m14_17) rfl rfl) ?_
  refine OGets.step (fun _ => XS.iloadN X82.here hx rfl (hb hby dj52m14_18) rfl) ?_
  obtain ⟨cl84, Ar84, S84⟩ := V82v.arr 1 rfl
  refine OGets.step (fun _ => X82.caload hx (j := (0 : Int32)) (v := (.int c0)) Ar84.1 (State.isArrayOf_alike hZ.alike Ar84.2.1) Ar84.2.2 (own_inb S84 0 (by decide) (Nat.le_of_ble_eq_true rfl)) (own_get S84 0 (by decide) rfl) (g := (mkF m 19 #[.val (.ref a), .val (.int (0 : Int32)), .val (.int (2 : Int32)), .val (.ref b82), .val (.int (0 : Int32))] [(.int (0 : Int32)), (.ref a), (.int (0 : Int32)), (.ref b82)])) rfl rfl (hb hby dj52m14_19) _) ?_
  show OGets p e below _ (T82.setTop (mkF m 20 #[.val (.ref a), .val (.int (0 : Int32)), .val (.int (2 : Int32)), .val (.ref b82), .val (.int (0 : Int32))] [(.int c0), (.int (0 : Int32)), (.ref b82)]))
  obtain ⟨_, _, ⟨T85, L85, k85, n85⟩, -, X85, ⟨Lc85, hQ85, l85, y85, z85⟩, st85⟩ := Jvm.LawKit.callS X82 hx (y := (⟨"java/lang/StringUTF16", "putChar", "([BII)V"⟩ : MethodName)) hown (mvT hZ (hw _ (List.mem_of_getElem? (i := 65) rfl))) (mvT hZ (hw _ (List.mem_of_getElem? (i := 66) rfl))) (mvT hZ (hw _ (List.mem_of_getElem? (i := 47) rfl))) (mvT hZ (hw _ (List.mem_of_getElem? (i := 67) rfl))) (by decide) (backOf (W := 0) (rm_pch20 l Z a0 hw [] b82 c0 T82.heap n0 _ Z82 SA SH SL V82v O82q) hZ (hw _ (List.mem_of_getElem? (i := 67) rfl)) (hw _ (List.mem_of_getElem? (i := 47) rfl)) (by decide) (by decide)) (g := (mkF m 20 #[.val (.ref a), .val (.int (0 : Int32)), .val (.int (2 : Int32)), .val (.ref b82), .val (.int (0 : Int32))] [(.int c0), (.int (0 : Int32)), (.ref b82)])) rfl (by rw [hml]; rfl) (argsL := [(.ref b82), (.int (0 : Int32)), (.int c0)]) (rest := []) (lenOf pd_4 rfl) rfl (by show 2 * 0 + _ ≤ _; exact Nat.le_of_eq rfl) (hb hby dj52m14_20) (fun _ _ => ⟨rfl, rfl, Nat.le_of_ble_eq_true rfl, Nat.le_of_ble_eq_true rfl⟩)
  dsimp only [Pt.U, Pt.locs, Pt.cells, Pt.slots] at X85 l85 y85 z85 st85 hQ85
  rw [l85, y85, z85] at X85
  obtain ⟨rfl, N85q, V85, O85q⟩ := hQ85
  have N85 := Fr.app N82 N85q
  have V85v : OView Z n0 T85.heap (((b82, Sum.inr (.byte, [(.int (hb' c0)), (.int (lb' c0)), (.int (0 : Int32)), (.int (0 : Int32))])) : Addr × OObj) :: ((a, Sum.inr (.char, [(.int c0), (.int c1)])) : Addr × OObj) :: F) := V85
  have Z85 : n0 ≤ T85.heap.size := V85v.big 0 rfl
  refine OGets.step st85 ?_
  refine OGets.step (fun _ => XS.iinc X85.here hx rfl (hb hby dj52m14_23) rfl (l' := #[.val (.ref a), .val (.int (1 : Int32)), .val (.int (2 : Int32)), .val (.ref b82), .val (.int (0 : Int32))]) rfl) ?_
  refine OGets.step (fun _ => XS.iinc X85.here hx rfl (hb hby dj52m14_26) rfl (l' := #[.val (.ref a), .val (.int (1 : Int32)), .val (.int (2 : Int32)), .val (.ref b82), .val (.int (1 : Int32))]) rfl) ?_
  refine OGets.step (fun _ => XS.goto X85.here hx rfl (pc0 := 29) (pc' := 8) rfl (hb hby dj52m14_29) (by decide) (by decide)) ?_
  refine OGets.step (fun _ => XS.iload X85.here hx rfl (hb hby dj52m14_8) rfl) ?_
  refine OGets.step (fun _ => XS.iloadN X85.here hx rfl (hb hby dj52m14_10) rfl) ?_
  show OGets p e below _ (T85.setTop (mkF m 11 #[.val (.ref a), .val (.int (1 : Int32)), .val (.int (2 : Int32)), .val (.ref b82), .val (.int (1 : Int32))] [(.int (2 : Int32)), (.int (1 : Int32))]))
  refine OGets.step (fun _ => XS.icmpNo X85.here hx rfl (hb hby dj52m14_11) rfl (tlt (by decide : (1 : Int32) < (2 : Int32))).2.1) ?_
  refine OGets.step (fun _ => XS.aloadN X85.here hx rfl (hb hby dj52m14_14) rfl rfl) ?_
  refine OGets.step (fun _ => XS.iload X85.here hx rfl (hb hby dj52m14_15) rfl) ?_
  refine OGets.step (fun _ => XS.aloadN X85.here hx rfl (hb hby dj52m14_17) rfl rfl) ?_
  refine OGets.step (fun _ => XS.iloadN X85.here hx rfl (hb hby dj52m14_18) rfl) ?_
  obtain ⟨cl87, Ar87, S87⟩ := V85v.arr 1 rfl
  refine OGets.step (fun _ => X85.caload hx (j := (1 : Int32)) (v := (.int c1)) Ar87.1 (State.isArrayOf_alike hZ.alike Ar87.2.1) Ar87.2.2 (own_inb S87 1 (by decide) (Nat.le_of_ble_eq_true rfl)) (own_get S87 1 (by decide) rfl) (g := (mkF m 19 #[.val (.ref a), .val (.int (1 : Int32)), .val (.int (2 : Int32)), .val (.ref b82), .val (.int (1 : Int32))] [(.int (1 : Int32)), (.ref a), (.int (1 : Int32)), (.ref b82)])) rfl rfl (hb hby dj52m14_19) _) ?_
  show OGets p e below _ (T85.setTop (mkF m 20 #[.val (.ref a), .val (.int (1 : Int32)), .val (.int (2 : Int32)), .val (.ref b82), .val (.int (1 : Int32))] [(.int c1), (.int (1 : Int32)), (.ref b82)]))
  obtain ⟨_, _, ⟨T88, L88, k88, n88⟩, -, X88, ⟨Lc88, hQ88, l88, y88, z88⟩, st88⟩ := Jvm.LawKit.callS X85 hx (y := (⟨"java/lang/StringUTF16", "putChar", "([BII)V"⟩ : MethodName)) hown (mvT hZ (hw _ (List.mem_of_getElem? (i := 65) rfl))) (mvT hZ (hw _ (List.mem_of_getElem? (i := 66) rfl))) (mvT hZ (hw _ (List.mem_of_getElem? (i := 47) rfl))) (mvT hZ (hw _ (List.mem_of_getElem? (i := 67) rfl))) (by decide) (backOf (W := 0) (rm_pch21 l Z a0 hw [] b82 c1 (hb' c0) (lb' c0) T85.heap n0 _ Z85 SA SH SL V85v O85q) hZ (hw _ (List.mem_of_getElem? (i := 67) rfl)) (hw _ (List.mem_of_getElem? (i := 47) rfl)) (by decide) (by decide)) (g := (mkF m 20 #[.val (.ref a), .val (.int (1 : Int32)), .val (.int (2 : Int32)), .val (.ref b82), .val (.int (1 : Int32))] [(.int c1), (.int (1 : Int32)), (.ref b82)])) rfl (by rw [hml]; rfl) (argsL := [(.ref b82), (.int (1 : Int32)), (.int c1)]) (rest := []) (lenOf pd_4 rfl) rfl (by show 2 * 0 + _ ≤ _; exact Nat.le_of_eq rfl) (hb hby dj52m14_20) (fun _ _ => ⟨rfl, rfl, Nat.le_of_ble_eq_true rfl, Nat.le_of_ble_eq_true rfl⟩)
  dsimp only [Pt.U, Pt.locs, Pt.cells, Pt.slots] at X88 l88 y88 z88 st88 hQ88
  rw [l88, y88, z88] at X88
  obtain ⟨rfl, N88q, V88, O88q⟩ := hQ88
  have N88 := Fr.app N85 N88q
  have V88v : OView Z n0 T88.heap (((b82, Sum.inr (.byte, [(.int (hb' c0)), (.int (lb' c0)), (.int (hb' c1)), (.int (lb' c1))])) : Addr × OObj) :: ((a, Sum.inr (.char, [(.int c0), (.int c1)])) : Addr × OObj) :: F) := V88
  have Z88 : n0 ≤ T88.heap.size := V88v.big 0 rfl
  refine OGets.step st88 ?_
  refine OGets.step (fun _ => XS.iinc X88.here hx rfl (hb hby dj52m14_23) rfl (l' := #[.val (.ref a), .val (.int (2 : Int32)), .val (.int (2 : Int32)), .val (.ref b82), .val (.int (1 : Int32))]) rfl) ?_
  refine OGets.step (fun _ => XS.iinc X88.here hx rfl (hb hby dj52m14_26) rfl (l' := #[.val (.ref a), .val (.int (2 : Int32)), .val (.int (2 : Int32)), .val (.ref b82), .val (.int (2 : Int32))]) rfl) ?_
  refine OGets.step (fun _ => XS.goto X88.here hx rfl (pc0 := 29) (pc' := 8) rfl (hb hby dj52m14_29) (by decide) (by decide)) ?_
  refine OGets.step (fun _ => XS.iload X88.here hx rfl (hb hby dj52m14_8) rfl) ?_
  refine OGets.step (fun _ => XS.iloadN X88.here hx rfl (hb hby dj52m14_10) rfl) ?_
  show OGets p e below _ (T88.setTop (mkF m 11 #[.val (.ref a), .val (.int (2 : Int32)), .val (.int (2 : Int32)), .val (.ref b82), .val (.int (2 : Int32))] [(.int (2 : Int32)), (.int (2 : Int32))]))
  refine OGets.step (fun _ => XS.icmpYes X88.here hx rfl (pc0 := 11) (pc' := 32) rfl (hb hby dj52m14_11) rfl (flt (by decide : ¬ ((2 : Int32) < (2 : Int32)))).2.1 (by decide) (by decide)) ?_
  refine OGets.step (fun _ => XS.aloadN X88.here hx rfl (hb hby dj52m14_32) rfl rfl) ?_
  refine OGets.retA X88 hx hlk (t := (.array .byte)) Bd.returns rfl rfl rfl (hb hby dj52m14_33) (Nat.le_of_ble_eq_true rfl) (Nat.le_of_ble_eq_true rfl) ?_
  exact ⟨b82, rfl, N88, V88v, O88q⟩
theorem ef_gch20 (m : MethodId) (x0 : Addr) (x1 : Int32) : entryFrame m #[(.ref x0), (.int x1)] 2 = mkF m 0 #[.val (.ref x0), .val (.int x1)] [] := by first | (simp [entryFrame, mkF, argsToLocals, Value.category]; done) | rfl
def Q_gch20 (Z : State) (b : Addr) (y0 : Int32) (y1 : Int32) (y2 : Int32) (y3 : Int32) (h0 : Heap) (n0 : Nat) (F : List (Addr × OObj)) (v : Option Value) (h : Heap) (L : List Loc) : Prop := v = some (.int (gcv y0 y1)) ∧ L = [] ∧ h = h0
set_option maxRecDepth 65536 in
set_option maxHeartbeats 40000000 in
theorem rm_gch20 (l : Launch) (Z : State) (a0 : Array Value) (hw : ∀ d ∈ tables_1, d.before a0 Z = true) (ws : List Jvm.Cond) (b : Addr) (y0 : Int32) (y1 : Int32) (y2 : Int32) (y3 : Int32) (h0 : Heap) (n0 : Nat) (F : List (Addr × OObj)) (Z0 : n0 ≤ h0.size) (SA : Sta Z Z.heap "java/lang/StringUTF16" "$assertionsDisabled" "Z" (.int (1 : Int32))) (SH : Sta Z Z.heap "java/lang/StringUTF16" "HI_BYTE_SHIFT" "I" (.int (0 : Int32))) (SL : Sta Z Z.heap "java/lang/StringUTF16" "LO_BYTE_SHIFT" "I" (.int (8 : Int32))) (V0 : OView Z n0 h0 (((b, Sum.inr (.byte, [(.int y0), (.int y1), (.int y2), (.int y3)])) : Addr × OObj) :: F)) (O0 : Old Z n0 h0) :
    MetFree l (⟨"java/lang/StringUTF16", "getChar", "([BI)C"⟩ : MethodName) (head1 (Jvm.Cond.code (⟨"java/lang/StringUTF16", "getChar", "([BI)C"⟩ : MethodName) jdk_52_method_5_code 2 (some .char) :: ws) ({ frames := 0, cells := 0, slots := 0, locals := 0 } : Room)) (fun a_ U => a_ = #[(.ref b), (.int (0 : Int32))] ∧ Z.Warmed39 U.vm ∧ U.heap = h0) (fun _ _ _ _ _ => True) (fun _ U o U' => ∃ v L, o = .returned v ∧ Q_gch20 Z b y0 y1 y2 y3 h0 n0 F v U'.heap L ∧ FrameEnd U o U' L ({ frames := 0, cells := 0, slots := 0, locals := 0 } : Room).cells ({ frames := 0, cells := 0, slots := 0, locals := 0 } : Room).slots) := by
  refine MetFree.of_bodySF (plainFor_of_name pn_1) hisR ?_
  intro p e s m args below meth c s₁ Bd hml0 hP hK
  obtain ⟨rfl, hZ, hh⟩ := hP
  have hx := Bd.exec
  have hby := Bd.bytes
  have hlk : meth.locks = false := Bd.notSynchronized
  have hml : c.maxLocals = 2 := hml0
  have hown : s.vm.findClass "java/lang/StringUTF16" = some m.cls := findClass_of_methodNamed Bd.named
  have hnm := (name_of_methodNamed Bd.named Bd.method).1
  have X0 : Stand p l e ({ frames := 0, cells := 0, slots := 0, locals := 0 } : Room) s m #[(.ref b), (.int (0 : Int32))] below meth c s₁ [] 0 0 := Stand.of_body Bd
  have e0 : s₁.heap = h0 := by rw [← hh, Bd.state]; rfl
  have N0 := Fr.nil n0
  show OGets p e below (OLeaves s (Q_gch20 Z b y0 y1 y2 y3 h0 n0 F ) ({ frames := 0, cells := 0, slots := 0, locals := 0 } : Room).cells ({ frames := 0, cells := 0, slots := 0, locals := 0 } : Room).slots) _
  refine OGets.enter (ef_gch20 m b (0 : Int32)) ?_
  show OGets p e below _ (s₁.setTop (mkF m 0 #[.val (.ref b), .val (.int (0 : Int32))] []))
  obtain ⟨T90, X90, e90, st90⟩ := getS2 X0 hx hZ hown (host := "") (Or.inl (hw _ (List.mem_of_getElem? (i := 68) rfl))) Via.refl e0 (SA.ext O0.2) (g := (mkF m 0 #[.val (.ref b), .val (.int (0 : Int32))] [])) rfl (hb hby dj52m5_0)
  refine OGets.step st90 ?_
  refine OGets.step (fun _ => XS.ifYes X90.here hx rfl (pc0 := 3) (pc' := 28) rfl (hb hby dj52m5_3) rfl ((if0 _ _).trans (feq (by decide : ¬ ((1 : Int32) = (0 : Int32)))).2) (by decide) (by decide)) ?_
  refine OGets.step (fun _ => XS.iloadN X90.here hx rfl (hb hby dj52m5_28) rfl) ?_
  refine OGets.step (fun _ => XS.iconst X90.here hx rfl (hb hby dj52m5_29)) ?_
  refine OGets.step (fun _ => XS.ishl X90.here hx rfl (hb hby dj52m5_30) rfl) ?_
  show OGets p e below _ (T90.setTop (mkF m 31 #[.val (.ref b), .val (.int (0 : Int32))] [(.int ((0 : Int32) <<< ((1 : Int32) &&& 31)))]))
  rw [show ((0 : Int32) <<< ((1 : Int32) &&& 31)) = (0 : Int32) from by decide]
  show OGets p e below _ (T90.setTop (mkF m 31 #[.val (.ref b), .val (.int (0 : Int32))] [(.int (0 : Int32))]))
  refine OGets.step (fun _ => XS.istoreN X90.here hx rfl (hb hby dj52m5_31) rfl (l' := #[.val (.ref b), .val (.int (0 : Int32))]) rfl) ?_
  refine OGets.step (fun _ => XS.aloadN X90.here hx rfl (hb hby dj52m5_32) rfl rfl) ?_
  refine OGets.step (fun _ => XS.iloadN X90.here hx rfl (hb hby dj52m5_33) rfl) ?_
  refine OGets.step (fun _ => XS.iinc X90.here hx rfl (hb hby dj52m5_34) rfl (l' := #[.val (.ref b), .val (.int (1 : Int32))]) rfl) ?_
  obtain ⟨cl92, Ar92, S92⟩ := V0.arr 0 rfl
  refine OGets.step (fun _ => X90.baloadBytes hx (j := (0 : Int32)) (v := (.int y0)) (by rw [e90]; exact Ar92.1) (State.isArrayOf_alike hZ.alike Ar92.2.1) Ar92.2.2 (own_inb S92 0 (by decide) (Nat.le_of_ble_eq_true rfl)) (own_get S92 0 (by decide) rfl) (g := (mkF m 37 #[.val (.ref b), .val (.int (1 : Int32))] [(.int (0 : Int32)), (.ref b)])) rfl rfl (hb hby dj52m5_37) _) ?_
  refine OGets.step (fun _ => XS.sipush X90.here hx rfl (hb hby dj52m5_38)) ?_
  show OGets p e below _ (T90.setTop (mkF m 41 #[.val (.ref b), .val (.int (1 : Int32))] [(.int (255 : Int32)), (.int y0)]))
  refine OGets.step (fun _ => XS.iand X90.here hx rfl (hb hby dj52m5_41) rfl) ?_
  obtain ⟨T93, X93, e93, st93⟩ := getS2 X90 hx hZ hown (host := "") (Or.inl (hw _ (List.mem_of_getElem? (i := 69) rfl))) Via.refl e90 (SH.ext O0.2) (g := (mkF m 42 #[.val (.ref b), .val (.int (1 : Int32))] [(.int (y0 &&& (255 : Int32)))])) rfl (hb hby dj52m5_42)
  refine OGets.step st93 ?_
  refine OGets.step (fun _ => XS.ishl X93.here hx rfl (hb hby dj52m5_45) rfl) ?_
  refine OGets.step (fun _ => XS.aloadN X93.here hx rfl (hb hby dj52m5_46) rfl rfl) ?_
  refine OGets.step (fun _ => XS.iloadN X93.here hx rfl (hb hby dj52m5_47) rfl) ?_
  obtain ⟨cl94, Ar94, S94⟩ := V0.arr 0 rfl
  refine OGets.step (fun _ => X93.baloadBytes hx (j := (1 : Int32)) (v := (.int y1)) (by rw [e93]; exact Ar94.1) (State.isArrayOf_alike hZ.alike Ar94.2.1) Ar94.2.2 (own_inb S94 1 (by decide) (Nat.le_of_ble_eq_true rfl)) (own_get S94 1 (by decide) rfl) (g := (mkF m 48 #[.val (.ref b), .val (.int (1 : Int32))] [(.int (1 : Int32)), (.ref b), (.int ((y0 &&& (255 : Int32)) <<< ((0 : Int32) &&& 31)))])) rfl rfl (hb hby dj52m5_48) _) ?_
  refine OGets.step (fun _ => XS.sipush X93.here hx rfl (hb hby dj52m5_49)) ?_
  show OGets p e below _ (T93.setTop (mkF m 52 #[.val (.ref b), .val (.int (1 : Int32))] [(.int (255 : Int32)), (.int y1), (.int ((y0 &&& (255 : Int32)) <<< ((0 : Int32) &&& 31)))]))
  refine OGets.step (fun _ => XS.iand X93.here hx rfl (hb hby dj52m5_52) rfl) ?_
  obtain ⟨T95, X95, e95, st95⟩ := getS2 X93 hx hZ hown (host := "") (Or.inl (hw _ (List.mem_of_getElem? (i := 70) rfl))) Via.refl e93 (SL.ext O0.2) (g := (mkF m 53 #[.val (.ref b), .val (.int (1 : Int32))] [(.int (y1 &&& (255 : Int32))), (.int ((y0 &&& (255 : Int32)) <<< ((0 : Int32) &&& 31)))])) rfl (hb hby dj52m5_53)
  refine OGets.step st95 ?_
  refine OGets.step (fun _ => XS.ishl X95.here hx rfl (hb hby dj52m5_56) rfl) ?_
  refine OGets.step (fun _ => XS.ior X95.here hx rfl (hb hby dj52m5_57) rfl) ?_
  refine OGets.step (fun _ => XS.i2c X95.here hx rfl (hb hby dj52m5_58) rfl) ?_
  refine OGets.retN X95 hx hlk (t := .char) Bd.returns (by simp) (hb hby dj52m5_59) (Nat.le_of_ble_eq_true rfl) (Nat.le_of_ble_eq_true rfl) ?_
  exact ⟨rfl, rfl, e95⟩
theorem ef_gch21 (m : MethodId) (x0 : Addr) (x1 : Int32) : entryFrame m #[(.ref x0), (.int x1)] 2 = mkF m 0 #[.val (.ref x0), .val (.int x1)] [] := by first | (simp [entryFrame, mkF, argsToLocals, Value.category]; done) | rfl
def Q_gch21 (Z : State) (b : Addr) (y0 : Int32) (y1 : Int32) (y2 : Int32) (y3 : Int32) (h0 : Heap) (n0 : Nat) (F : List (Addr × OObj)) (v : Option Value) (h : Heap) (L : List Loc) : Prop := v = some (.int (gcv y2 y3)) ∧ L = [] ∧ h = h0
set_option maxRecDepth 65536 in
set_option maxHeartbeats 40000000 in
theorem rm_gch21 (l : Launch) (Z : State) (a0 : Array Value) (hw : ∀ d ∈ tables_1, d.before a0 Z = true) (ws : List Jvm.Cond) (b : Addr) (y0 : Int32) (y1 : Int32) (y2 : Int32) (y3 : Int32) (h0 : Heap) (n0 : Nat) (F : List (Addr × OObj)) (Z0 : n0 ≤ h0.size) (SA : Sta Z Z.heap "java/lang/StringUTF16" "$assertionsDisabled" "Z" (.int (1 : Int32))) (SH : Sta Z Z.heap "java/lang/StringUTF16" "HI_BYTE_SHIFT" "I" (.int (0 : Int32))) (SL : Sta Z Z.heap "java/lang/StringUTF16" "LO_BYTE_SHIFT" "I" (.int (8 : Int32))) (V0 : OView Z n0 h0 (((b, Sum.inr (.byte, [(.int y0), (.int y1), (.int y2), (.int y3)])) : Addr × OObj) :: F)) (O0 : Old Z n0 h0) :
    MetFree l (⟨"java/lang/StringUTF16", "getChar", "([BI)C"⟩ : MethodName) (head1 (Jvm.Cond.code (⟨"java/lang/StringUTF16", "getChar", "([BI)C"⟩ : MethodName) jdk_52_method_5_code 2 (some .char) :: ws) ({ frames := 0, cells := 0, slots := 0, locals := 0 } : Room)) (fun a_ U => a_ = #[(.ref b), (.int (1 : Int32))] ∧ Z.Warmed39 U.vm ∧ U.heap = h0) (fun _ _ _ _ _ => True) (fun _ U o U' => ∃ v L, o = .returned v ∧ Q_gch21 Z b y0 y1 y2 y3 h0 n0 F v U'.heap L ∧ FrameEnd U o U' L ({ frames := 0, cells := 0, slots := 0, locals := 0 } : Room).cells ({ frames := 0, cells := 0, slots := 0, locals := 0 } : Room).slots) := by
  refine MetFree.of_bodySF (plainFor_of_name pn_1) hisR ?_
  intro p e s m args below meth c s₁ Bd hml0 hP hK
  obtain ⟨rfl, hZ, hh⟩ := hP
  have hx := Bd.exec
  have hby := Bd.bytes
  have hlk : meth.locks = false := Bd.notSynchronized
  have hml : c.maxLocals = 2 := hml0
  have hown : s.vm.findClass "java/lang/StringUTF16" = some m.cls := findClass_of_methodNamed Bd.named
  have hnm := (name_of_methodNamed Bd.named Bd.method).1
  have X0 : Stand p l e ({ frames := 0, cells := 0, slots := 0, locals := 0 } : Room) s m #[(.ref b), (.int (1 : Int32))] below meth c s₁ [] 0 0 := Stand.of_body Bd
  have e0 : s₁.heap = h0 := by rw [← hh, Bd.state]; rfl
  have N0 := Fr.nil n0
  show OGets p e below (OLeaves s (Q_gch21 Z b y0 y1 y2 y3 h0 n0 F ) ({ frames := 0, cells := 0, slots := 0, locals := 0 } : Room).cells ({ frames := 0, cells := 0, slots := 0, locals := 0 } : Room).slots) _
  refine OGets.enter (ef_gch21 m b (1 : Int32)) ?_
  show OGets p e below _ (s₁.setTop (mkF m 0 #[.val (.ref b), .val (.int (1 : Int32))] []))
  obtain ⟨T96, X96, e96, st96⟩ := getS2 X0 hx hZ hown (host := "") (Or.inl (hw _ (List.mem_of_getElem? (i := 68) rfl))) Via.refl e0 (SA.ext O0.2) (g := (mkF m 0 #[.val (.ref b), .val (.int (1 : Int32))] [])) rfl (hb hby dj52m5_0)
  refine OGets.step st96 ?_
  refine OGets.step (fun _ => XS.ifYes X96.here hx rfl (pc0 := 3) (pc' := 28) rfl (hb hby dj52m5_3) rfl ((if0 _ _).trans (feq (by decide : ¬ ((1 : Int32) = (0 : Int32)))).2) (by decide) (by decide)) ?_
  refine OGets.step (fun _ => XS.iloadN X96.here hx rfl (hb hby dj52m5_28) rfl) ?_
  refine OGets.step (fun _ => XS.iconst X96.here hx rfl (hb hby dj52m5_29)) ?_
  refine OGets.step (fun _ => XS.ishl X96.here hx rfl (hb hby dj52m5_30) rfl) ?_
  show OGets p e below _ (T96.setTop (mkF m 31 #[.val (.ref b), .val (.int (1 : Int32))] [(.int ((1 : Int32) <<< ((1 : Int32) &&& 31)))]))
  rw [show ((1 : Int32) <<< ((1 : Int32) &&& 31)) = (2 : Int32) from by decide]
  show OGets p e below _ (T96.setTop (mkF m 31 #[.val (.ref b), .val (.int (1 : Int32))] [(.int (2 : Int32))]))
  refine OGets.step (fun _ => XS.istoreN X96.here hx rfl (hb hby dj52m5_31) rfl (l' := #[.val (.ref b), .val (.int (2 : Int32))]) rfl) ?_
  refine OGets.step (fun _ => XS.aloadN X96.here hx rfl (hb hby dj52m5_32) rfl rfl) ?_
  refine OGets.step (fun _ => XS.iloadN X96.here hx rfl (hb hby dj52m5_33) rfl) ?_
  refine OGets.step (fun _ => XS.iinc X96.here hx rfl (hb hby dj52m5_34) rfl (l' := #[.val (.ref b), .val (.int (3 : Int32))]) rfl) ?_
  obtain ⟨cl98, Ar98, S98⟩ := V0.arr 0 rfl
  refine OGets.step (fun _ => X96.baloadBytes hx (j := (2 : Int32)) (v := (.int y2)) (by rw [e96]; exact Ar98.1) (State.isArrayOf_alike hZ.alike Ar98.2.1) Ar98.2.2 (own_inb S98 2 (by decide) (Nat.le_of_ble_eq_true rfl)) (own_get S98 2 (by decide) rfl) (g := (mkF m 37 #[.val (.ref b), .val (.int (3 : Int32))] [(.int (2 : Int32)), (.ref b)])) rfl rfl (hb hby dj52m5_37) _) ?_
  refine OGets.step (fun _ => XS.sipush X96.here hx rfl (hb hby dj52m5_38)) ?_
  show OGets p e below _ (T96.setTop (mkF m 41 #[.val (.ref b), .val (.int (3 : Int32))] [(.int (255 : Int32)), (.int y2)]))
  refine OGets.step (fun _ => XS.iand X96.here hx rfl (hb hby dj52m5_41) rfl) ?_
  obtain ⟨T99, X99, e99, st99⟩ := getS2 X96 hx hZ hown (host := "") (Or.inl (hw _ (List.mem_of_getElem? (i := 69) rfl))) Via.refl e96 (SH.ext O0.2) (g := (mkF m 42 #[.val (.ref b), .val (.int (3 : Int32))] [(.int (y2 &&& (255 : Int32)))])) rfl (hb hby dj52m5_42)
  refine OGets.step st99 ?_
  refine OGets.step (fun _ => XS.ishl X99.here hx rfl (hb hby dj52m5_45) rfl) ?_
  refine OGets.step (fun _ => XS.aloadN X99.here hx rfl (hb hby dj52m5_46) rfl rfl) ?_
  refine OGets.step (fun _ => XS.iloadN X99.here hx rfl (hb hby dj52m5_47) rfl) ?_
  obtain ⟨cl100, Ar100, S100⟩ := V0.arr 0 rfl
  refine OGets.step (fun _ => X99.baloadBytes hx (j := (3 : Int32)) (v := (.int y3)) (by rw [e99]; exact Ar100.1) (State.isArrayOf_alike hZ.alike Ar100.2.1) Ar100.2.2 (own_inb S100 3 (by decide) (Nat.le_of_ble_eq_true rfl)) (own_get S100 3 (by decide) rfl) (g := (mkF m 48 #[.val (.ref b), .val (.int (3 : Int32))] [(.int (3 : Int32)), (.ref b), (.int ((y2 &&& (255 : Int32)) <<< ((0 : Int32) &&& 31)))])) rfl rfl (hb hby dj52m5_48) _) ?_
  refine OGets.step (fun _ => XS.sipush X99.here hx rfl (hb hby dj52m5_49)) ?_
  show OGets p e below _ (T99.setTop (mkF m 52 #[.val (.ref b), .val (.int (3 : Int32))] [(.int (255 : Int32)), (.int y3), (.int ((y2 &&& (255 : Int32)) <<< ((0 : Int32) &&& 31)))]))
  refine OGets.step (fun _ => XS.iand X99.here hx rfl (hb hby dj52m5_52) rfl) ?_
  obtain ⟨T101, X101, e101, st101⟩ := getS2 X99 hx hZ hown (host := "") (Or.inl (hw _ (List.mem_of_getElem? (i := 70) rfl))) Via.refl e99 (SL.ext O0.2) (g := (mkF m 53 #[.val (.ref b), .val (.int (3 : Int32))] [(.int (y3 &&& (255 : Int32))), (.int ((y2 &&& (255 : Int32)) <<< ((0 : Int32) &&& 31)))])) rfl (hb hby dj52m5_53)
  refine OGets.step st101 ?_
  refine OGets.step (fun _ => XS.ishl X101.here hx rfl (hb hby dj52m5_56) rfl) ?_
  refine OGets.step (fun _ => XS.ior X101.here hx rfl (hb hby dj52m5_57) rfl) ?_
  refine OGets.step (fun _ => XS.i2c X101.here hx rfl (hb hby dj52m5_58) rfl) ?_
  refine OGets.retN X101 hx hlk (t := .char) Bd.returns (by simp) (hb hby dj52m5_59) (Nat.le_of_ble_eq_true rfl) (Nat.le_of_ble_eq_true rfl) ?_
  exact ⟨rfl, rfl, e101⟩
theorem ef_cfl20 (m : MethodId) (x0 : Addr) (x1 : Int32) : entryFrame m #[(.ref x0), (.int x1)] 2 = mkF m 0 #[.val (.ref x0), .val (.int x1)] [] := by first | (simp [entryFrame, mkF, argsToLocals, Value.category]; done) | rfl
def Q_cfl20 (Z : State) (b : Addr) (y0 : Int32) (y1 : Int32) (h0 : Heap) (n0 : Nat) (F : List (Addr × OObj)) (v : Option Value) (h : Heap) (L : List Loc) : Prop := v = some (.int (0 : Int32)) ∧ L = [] ∧ h = h0
set_option maxRecDepth 65536 in
set_option maxHeartbeats 40000000 in
theorem rm_cfl20 (l : Launch) (Z : State) (a0 : Array Value) (hw : ∀ d ∈ tables_1, d.before a0 Z = true) (ws : List Jvm.Cond) (b : Addr) (y0 : Int32) (y1 : Int32) (h0 : Heap) (n0 : Nat) (F : List (Addr × OObj)) (Z0 : n0 ≤ h0.size) (V0 : OView Z n0 h0 (((b, Sum.inr (.byte, [(.int y0), (.int y1)])) : Addr × OObj) :: F)) :
    MetFree l (⟨"java/lang/StringUTF16", "coderFromArrayLen", "([BI)B"⟩ : MethodName) (head1 (Jvm.Cond.code (⟨"java/lang/StringUTF16", "coderFromArrayLen", "([BI)B"⟩ : MethodName) jdk_52_method_15_code 2 (some .byte) :: ws) ({ frames := 0, cells := 0, slots := 0, locals := 0 } : Room)) (fun a_ U => a_ = #[(.ref b), (.int (2 : Int32))] ∧ Z.Warmed39 U.vm ∧ U.heap = h0) (fun _ _ _ _ _ => True) (fun _ U o U' => ∃ v L, o = .returned v ∧ Q_cfl20 Z b y0 y1 h0 n0 F v U'.heap L ∧ FrameEnd U o U' L ({ frames := 0, cells := 0, slots := 0, locals := 0 } : Room).cells ({ frames := 0, cells := 0, slots := 0, locals := 0 } : Room).slots) := by
  refine MetFree.of_bodySF (plainFor_of_name pn_1) hisR ?_
  intro p e s m args below meth c s₁ Bd hml0 hP hK
  obtain ⟨rfl, hZ, hh⟩ := hP
  have hx := Bd.exec
  have hby := Bd.bytes
  have hlk : meth.locks = false := Bd.notSynchronized
  have hml : c.maxLocals = 2 := hml0
  have hown : s.vm.findClass "java/lang/StringUTF16" = some m.cls := findClass_of_methodNamed Bd.named
  have hnm := (name_of_methodNamed Bd.named Bd.method).1
  have X0 : Stand p l e ({ frames := 0, cells := 0, slots := 0, locals := 0 } : Room) s m #[(.ref b), (.int (2 : Int32))] below meth c s₁ [] 0 0 := Stand.of_body Bd
  have e0 : s₁.heap = h0 := by rw [← hh, Bd.state]; rfl
  have N0 := Fr.nil n0
  show OGets p e below (OLeaves s (Q_cfl20 Z b y0 y1 h0 n0 F ) ({ frames := 0, cells := 0, slots := 0, locals := 0 } : Room).cells ({ frames := 0, cells := 0, slots := 0, locals := 0 } : Room).slots) _
  refine OGets.enter (ef_cfl20 m b (2 : Int32)) ?_
  show OGets p e below _ (s₁.setTop (mkF m 0 #[.val (.ref b), .val (.int (2 : Int32))] []))
  refine OGets.step (fun _ => XS.iloadN X0.here hx rfl (hb hby dj52m15_0) rfl) ?_
  refine OGets.step (fun _ => XS.aloadN X0.here hx rfl (hb hby dj52m15_1) rfl rfl) ?_
  obtain ⟨cl102, Ar102, S102⟩ := V0.arr 0 rfl
  have ln102 : cl102.slots.size.toInt32 = (2 : Int32) := by rw [own_len S102]; rfl
  refine OGets.step (U' := s₁.setTop (mkF m 3 #[.val (.ref b), .val (.int (2 : Int32))] [(.int (2 : Int32)), (.int (2 : Int32))])) (fun t kt => ?_) ?_
  · refine X0.arraylength hx (by rw [e0]; exact Ar102.1) (State.isArrayOf_alike hZ.alike Ar102.2.1) (g := (mkF m 2 #[.val (.ref b), .val (.int (2 : Int32))] [(.ref b), (.int (2 : Int32))])) rfl rfl (hb hby dj52m15_2) _ ?_
    rw [ln102]; exact kt
  refine OGets.step (fun _ => XS.isub X0.here hx rfl (hb hby dj52m15_3) rfl) ?_
  show OGets p e below _ (s₁.setTop (mkF m 4 #[.val (.ref b), .val (.int (2 : Int32))] [(.int (0 : Int32))]))
  refine OGets.step (fun _ => XS.bipush X0.here hx rfl (hb hby dj52m15_4)) ?_
  refine OGets.step (fun _ => XS.iushr X0.here hx rfl (hb hby dj52m15_6) rfl) ?_
  show OGets p e below _ (s₁.setTop (mkF m 7 #[.val (.ref b), .val (.int (2 : Int32))] [(.int (((0 : Int32).toUInt32 >>> ((31 : Int32) &&& 31).toUInt32).toInt32))]))
  rw [show (((0 : Int32).toUInt32 >>> ((31 : Int32) &&& 31).toUInt32).toInt32) = (0 : Int32) from by decide]
  show OGets p e below _ (s₁.setTop (mkF m 7 #[.val (.ref b), .val (.int (2 : Int32))] [(.int (0 : Int32))]))
  refine OGets.step (fun _ => XS.i2b X0.here hx rfl (hb hby dj52m15_7) rfl) ?_
  refine OGets.retN X0 hx hlk (t := .byte) Bd.returns (by simp) (hb hby dj52m15_8) (Nat.le_of_ble_eq_true rfl) (Nat.le_of_ble_eq_true rfl) ?_
  exact ⟨congrArg (fun z => some (Value.int z)) (show _ = (0 : Int32) from by decide), rfl, e0⟩
theorem ef_cfl21 (m : MethodId) (x0 : Addr) (x1 : Int32) : entryFrame m #[(.ref x0), (.int x1)] 2 = mkF m 0 #[.val (.ref x0), .val (.int x1)] [] := by first | (simp [entryFrame, mkF, argsToLocals, Value.category]; done) | rfl
def Q_cfl21 (Z : State) (b : Addr) (y0 : Int32) (y1 : Int32) (y2 : Int32) (y3 : Int32) (h0 : Heap) (n0 : Nat) (F : List (Addr × OObj)) (v : Option Value) (h : Heap) (L : List Loc) : Prop := v = some (.int (1 : Int32)) ∧ L = [] ∧ h = h0
set_option maxRecDepth 65536 in
set_option maxHeartbeats 40000000 in
theorem rm_cfl21 (l : Launch) (Z : State) (a0 : Array Value) (hw : ∀ d ∈ tables_1, d.before a0 Z = true) (ws : List Jvm.Cond) (b : Addr) (y0 : Int32) (y1 : Int32) (y2 : Int32) (y3 : Int32) (h0 : Heap) (n0 : Nat) (F : List (Addr × OObj)) (Z0 : n0 ≤ h0.size) (V0 : OView Z n0 h0 (((b, Sum.inr (.byte, [(.int y0), (.int y1), (.int y2), (.int y3)])) : Addr × OObj) :: F)) :
    MetFree l (⟨"java/lang/StringUTF16", "coderFromArrayLen", "([BI)B"⟩ : MethodName) (head1 (Jvm.Cond.code (⟨"java/lang/StringUTF16", "coderFromArrayLen", "([BI)B"⟩ : MethodName) jdk_52_method_15_code 2 (some .byte) :: ws) ({ frames := 0, cells := 0, slots := 0, locals := 0 } : Room)) (fun a_ U => a_ = #[(.ref b), (.int (2 : Int32))] ∧ Z.Warmed39 U.vm ∧ U.heap = h0) (fun _ _ _ _ _ => True) (fun _ U o U' => ∃ v L, o = .returned v ∧ Q_cfl21 Z b y0 y1 y2 y3 h0 n0 F v U'.heap L ∧ FrameEnd U o U' L ({ frames := 0, cells := 0, slots := 0, locals := 0 } : Room).cells ({ frames := 0, cells := 0, slots := 0, locals := 0 } : Room).slots) := by
  refine MetFree.of_bodySF (plainFor_of_name pn_1) hisR ?_
  intro p e s m args below meth c s₁ Bd hml0 hP hK
  obtain ⟨rfl, hZ, hh⟩ := hP
  have hx := Bd.exec
  have hby := Bd.bytes
  have hlk : meth.locks = false := Bd.notSynchronized
  have hml : c.maxLocals = 2 := hml0
  have hown : s.vm.findClass "java/lang/StringUTF16" = some m.cls := findClass_of_methodNamed Bd.named
  have hnm := (name_of_methodNamed Bd.named Bd.method).1
  have X0 : Stand p l e ({ frames := 0, cells := 0, slots := 0, locals := 0 } : Room) s m #[(.ref b), (.int (2 : Int32))] below meth c s₁ [] 0 0 := Stand.of_body Bd
  have e0 : s₁.heap = h0 := by rw [← hh, Bd.state]; rfl
  have N0 := Fr.nil n0
  show OGets p e below (OLeaves s (Q_cfl21 Z b y0 y1 y2 y3 h0 n0 F ) ({ frames := 0, cells := 0, slots := 0, locals := 0 } : Room).cells ({ frames := 0, cells := 0, slots := 0, locals := 0 } : Room).slots) _
  refine OGets.enter (ef_cfl21 m b (2 : Int32)) ?_
  show OGets p e below _ (s₁.setTop (mkF m 0 #[.val (.ref b), .val (.int (2 : Int32))] []))
  refine OGets.step (fun _ => XS.iloadN X0.here hx rfl (hb hby dj52m15_0) rfl) ?_
  refine OGets.step (fun _ => XS.aloadN X0.here hx rfl (hb hby dj52m15_1) rfl rfl) ?_
  obtain ⟨cl103, Ar103, S103⟩ := V0.arr 0 rfl
  have ln103 : cl103.slots.size.toInt32 = (4 : Int32) := by rw [own_len S103]; rfl
  refine OGets.step (U' := s₁.setTop (mkF m 3 #[.val (.ref b), .val (.int (2 : Int32))] [(.int (4 : Int32)), (.int (2 : Int32))])) (fun t kt => ?_) ?_
  · refine X0.arraylength hx (by rw [e0]; exact Ar103.1) (State.isArrayOf_alike hZ.alike Ar103.2.1) (g := (mkF m 2 #[.val (.ref b), .val (.int (2 : Int32))] [(.ref b), (.int (2 : Int32))])) rfl rfl (hb hby dj52m15_2) _ ?_
    rw [ln103]; exact kt
  refine OGets.step (fun _ => XS.isub X0.here hx rfl (hb hby dj52m15_3) rfl) ?_
  show OGets p e below _ (s₁.setTop (mkF m 4 #[.val (.ref b), .val (.int (2 : Int32))] [(.int (-2 : Int32))]))
  refine OGets.step (fun _ => XS.bipush X0.here hx rfl (hb hby dj52m15_4)) ?_
  refine OGets.step (fun _ => XS.iushr X0.here hx rfl (hb hby dj52m15_6) rfl) ?_
  show OGets p e below _ (s₁.setTop (mkF m 7 #[.val (.ref b), .val (.int (2 : Int32))] [(.int (((-2 : Int32).toUInt32 >>> ((31 : Int32) &&& 31).toUInt32).toInt32))]))
  rw [show (((-2 : Int32).toUInt32 >>> ((31 : Int32) &&& 31).toUInt32).toInt32) = (1 : Int32) from by decide]
  show OGets p e below _ (s₁.setTop (mkF m 7 #[.val (.ref b), .val (.int (2 : Int32))] [(.int (1 : Int32))]))
  refine OGets.step (fun _ => XS.i2b X0.here hx rfl (hb hby dj52m15_7) rfl) ?_
  refine OGets.retN X0 hx hlk (t := .byte) Bd.returns (by simp) (hb hby dj52m15_8) (Nat.le_of_ble_eq_true rfl) (Nat.le_of_ble_eq_true rfl) ?_
  exact ⟨congrArg (fun z => some (Value.int z)) (show _ = (1 : Int32) from by decide), rfl, e0⟩
theorem ef_c5_20 (m : MethodId) (x0 : Addr) (x1 : Int32) (x2 : Addr) (x3 : Int32) (x4 : Int32) : entryFrame m #[(.ref x0), (.int x1), (.ref x2), (.int x3), (.int x4)] 7 = mkF m 0 #[.val (.ref x0), .val (.int x1), .val (.ref x2), .val (.int x3), .val (.int x4), .unset, .unset] [] := by first | (simp [entryFrame, mkF, argsToLocals, Value.category]; done) | rfl
def Q_c5_20 (Z : State) (a : Addr) (b : Addr) (c0 : Int32) (c1 : Int32) (h0 : Heap) (n0 : Nat) (F : List (Addr × OObj)) (v : Option Value) (h : Heap) (L : List Loc) : Prop := v = some (.int (0 : Int32)) ∧ Fr n0 L ∧ OView Z n0 h (((a, Sum.inr (.char, [(.int c0), (.int c1)])) : Addr × OObj) :: ((b, Sum.inr (.byte, [(.int (0 : Int32)), (.int (0 : Int32))])) : Addr × OObj) :: F) ∧ Old Z n0 h
set_option maxRecDepth 65536 in
set_option maxHeartbeats 40000000 in
theorem rm_c5_20 (l : Launch) (Z : State) (a0 : Array Value) (hw : ∀ d ∈ tables_1, d.before a0 Z = true) (ws : List Jvm.Cond) (a : Addr) (b : Addr) (c0 : Int32) (c1 : Int32) (h0 : Heap) (n0 : Nat) (F : List (Addr × OObj)) (Z0 : n0 ≤ h0.size) (u0 : (255 : Int32) < c0) (V0 : OView Z n0 h0 (((a, Sum.inr (.char, [(.int c0), (.int c1)])) : Addr × OObj) :: ((b, Sum.inr (.byte, [(.int (0 : Int32)), (.int (0 : Int32))])) : Addr × OObj) :: F)) (O0 : Old Z n0 h0) :
    MetFree l (⟨"java/lang/StringUTF16", "compress", "([CI[BII)I"⟩ : MethodName) (head1 (Jvm.Cond.code (⟨"java/lang/StringUTF16", "compress", "([CI[BII)I"⟩ : MethodName) jdk_52_method_21_code 7 (some .int) :: ws) ({ frames := 0, cells := 0, slots := 0, locals := 0 } : Room)) (fun a_ U => a_ = #[(.ref a), (.int (0 : Int32)), (.ref b), (.int (0 : Int32)), (.int (2 : Int32))] ∧ Z.Warmed39 U.vm ∧ U.heap = h0) (fun _ _ _ _ _ => True) (fun _ U o U' => ∃ v L, o = .returned v ∧ Q_c5_20 Z a b c0 c1 h0 n0 F v U'.heap L ∧ FrameEnd U o U' L ({ frames := 0, cells := 0, slots := 0, locals := 0 } : Room).cells ({ frames := 0, cells := 0, slots := 0, locals := 0 } : Room).slots) := by
  refine MetFree.of_bodySF (plainFor_of_name pn_1) hisR ?_
  intro p e s m args below meth c s₁ Bd hml0 hP hK
  obtain ⟨rfl, hZ, hh⟩ := hP
  have hx := Bd.exec
  have hby := Bd.bytes
  have hlk : meth.locks = false := Bd.notSynchronized
  have hml : c.maxLocals = 7 := hml0
  have hown : s.vm.findClass "java/lang/StringUTF16" = some m.cls := findClass_of_methodNamed Bd.named
  have hnm := (name_of_methodNamed Bd.named Bd.method).1
  have X0 : Stand p l e ({ frames := 0, cells := 0, slots := 0, locals := 0 } : Room) s m #[(.ref a), (.int (0 : Int32)), (.ref b), (.int (0 : Int32)), (.int (2 : Int32))] below meth c s₁ [] 0 0 := Stand.of_body Bd
  have e0 : s₁.heap = h0 := by rw [← hh, Bd.state]; rfl
  have N0 := Fr.nil n0
  show OGets p e below (OLeaves s (Q_c5_20 Z a b c0 c1 h0 n0 F ) ({ frames := 0, cells := 0, slots := 0, locals := 0 } : Room).cells ({ frames := 0, cells := 0, slots := 0, locals := 0 } : Room).slots) _
  refine OGets.enter (ef_c5_20 m a (0 : Int32) b (0 : Int32) (2 : Int32)) ?_
  show OGets p e below _ (s₁.setTop (mkF m 0 #[.val (.ref a), .val (.int (0 : Int32)), .val (.ref b), .val (.int (0 : Int32)), .val (.int (2 : Int32)), .unset, .unset] []))
  refine OGets.step (fun _ => XS.iconst X0.here hx rfl (hb hby dj52m21_0)) ?_
  refine OGets.step (fun _ => XS.istore X0.here hx rfl (hb hby dj52m21_1) rfl (l' := #[.val (.ref a), .val (.int (0 : Int32)), .val (.ref b), .val (.int (0 : Int32)), .val (.int (2 : Int32)), .val (.int (0 : Int32)), .unset]) rfl) ?_
  refine OGets.step (fun _ => XS.iload X0.here hx rfl (hb hby dj52m21_3) rfl) ?_
  refine OGets.step (fun _ => XS.iload X0.here hx rfl (hb hby dj52m21_5) rfl) ?_
  refine OGets.step (fun _ => XS.icmpNo X0.here hx rfl (hb hby dj52m21_7) rfl (tlt (by decide : (0 : Int32) < (2 : Int32))).2.1) ?_
  refine OGets.step (fun _ => XS.aloadN X0.here hx rfl (hb hby dj52m21_10) rfl rfl) ?_
  show OGets p e below _ (s₁.setTop (mkF m 11 #[.val (.ref a), .val (.int (0 : Int32)), .val (.ref b), .val (.int (0 : Int32)), .val (.int (2 : Int32)), .val (.int (0 : Int32)), .unset] [(.ref a)]))
  refine OGets.step (fun _ => XS.iloadN X0.here hx rfl (hb hby dj52m21_11) rfl) ?_
  obtain ⟨cl105, Ar105, S105⟩ := V0.arr 0 rfl
  refine OGets.step (fun _ => X0.caload hx (j := (0 : Int32)) (v := (.int c0)) (by rw [e0]; exact Ar105.1) (State.isArrayOf_alike hZ.alike Ar105.2.1) Ar105.2.2 (own_inb S105 0 (by decide) (Nat.le_of_ble_eq_true rfl)) (own_get S105 0 (by decide) rfl) (g := (mkF m 12 #[.val (.ref a), .val (.int (0 : Int32)), .val (.ref b), .val (.int (0 : Int32)), .val (.int (2 : Int32)), .val (.int (0 : Int32)), .unset] [(.int (0 : Int32)), (.ref a)])) rfl rfl (hb hby dj52m21_12) _) ?_
  refine OGets.step (fun _ => XS.istore X0.here hx rfl (hb hby dj52m21_13) rfl (l' := #[.val (.ref a), .val (.int (0 : Int32)), .val (.ref b), .val (.int (0 : Int32)), .val (.int (2 : Int32)), .val (.int (0 : Int32)), .val (.int c0)]) rfl) ?_
  refine OGets.step (fun _ => XS.iload X0.here hx rfl (hb hby dj52m21_15) rfl) ?_
  refine OGets.step (fun _ => XS.sipush X0.here hx rfl (hb hby dj52m21_17)) ?_
  refine OGets.step (fun _ => XS.icmpNo X0.here hx rfl (hb hby dj52m21_20) rfl (tlt (u0 : (255 : Int32) < c0)).2.2.2) ?_
  show OGets p e below _ (s₁.setTop (mkF m 23 #[.val (.ref a), .val (.int (0 : Int32)), .val (.ref b), .val (.int (0 : Int32)), .val (.int (2 : Int32)), .val (.int (0 : Int32)), .val (.int c0)] []))
  refine OGets.step (fun _ => XS.iload X0.here hx rfl (hb hby dj52m21_23) rfl) ?_
  refine OGets.retI X0 hx hlk Bd.returns (hb hby dj52m21_25) (Nat.le_of_ble_eq_true rfl) (Nat.le_of_ble_eq_true rfl) ?_
  rw [e0]
  exact ⟨rfl, N0, V0, O0⟩
theorem ef_c3_20 (m : MethodId) (x0 : Addr) (x1 : Int32) (x2 : Int32) : entryFrame m #[(.ref x0), (.int x1), (.int x2)] 6 = mkF m 0 #[.val (.ref x0), .val (.int x1), .val (.int x2), .unset, .unset, .unset] [] := by first | (simp [entryFrame, mkF, argsToLocals, Value.category]; done) | rfl
def Q_c3_20 (Z : State) (a : Addr) (c0 : Int32) (c1 : Int32) (h0 : Heap) (n0 : Nat) (F : List (Addr × OObj)) (v : Option Value) (h : Heap) (L : List Loc) : Prop := ∃ b : Addr, v = some (.ref b) ∧ Fr n0 L ∧ OView Z n0 h (((b, Sum.inr (.byte, [(.int (hb' c0)), (.int (lb' c0)), (.int (hb' c1)), (.int (lb' c1))])) : Addr × OObj) :: ((a, Sum.inr (.char, [(.int c0), (.int c1)])) : Addr × OObj) :: F) ∧ Old Z n0 h
set_option maxRecDepth 65536 in
set_option maxHeartbeats 40000000 in
theorem rm_c3_20 (l : Launch) (Z : State) (a0 : Array Value) (hw : ∀ d ∈ tables_1, d.before a0 Z = true) (ws : List Jvm.Cond) (a : Addr) (c0 : Int32) (c1 : Int32) (h0 : Heap) (n0 : Nat) (F : List (Addr × OObj)) (Z0 : n0 ≤ h0.size) (SA : Sta Z Z.heap "java/lang/StringUTF16" "$assertionsDisabled" "Z" (.int (1 : Int32))) (SH : Sta Z Z.heap "java/lang/StringUTF16" "HI_BYTE_SHIFT" "I" (.int (0 : Int32))) (SL : Sta Z Z.heap "java/lang/StringUTF16" "LO_BYTE_SHIFT" "I" (.int (8 : Int32))) (u0 : (255 : Int32) < c0) (w0 : Ch c0) (V0 : OView Z n0 h0 (((a, Sum.inr (.char, [(.int c0), (.int c1)])) : Addr × OObj) :: F)) (O0 : Old Z n0 h0) :
    MetFree l (⟨"java/lang/StringUTF16", "compress", "([CII)[B"⟩ : MethodName) (head1 (Jvm.Cond.code (⟨"java/lang/StringUTF16", "compress", "([CII)[B"⟩ : MethodName) jdk_52_method_16_code 6 (some (.array .byte)) :: ws) ({ frames := 3, cells := 2, slots := 6, locals := 40 } : Room)) (fun a_ U => a_ = #[(.ref a), (.int (0 : Int32)), (.int (2 : Int32))] ∧ Z.Warmed39 U.vm ∧ U.heap = h0) (fun _ _ _ _ _ => True) (fun _ U o U' => ∃ v L, o = .returned v ∧ Q_c3_20 Z a c0 c1 h0 n0 F v U'.heap L ∧ FrameEnd U o U' L ({ frames := 3, cells := 2, slots := 6, locals := 40 } : Room).cells ({ frames := 3, cells := 2, slots := 6, locals := 40 } : Room).slots) := by
  refine MetFree.of_bodySF (plainFor_of_name pn_1) hisR ?_
  intro p e s m args below meth c s₁ Bd hml0 hP hK
  obtain ⟨rfl, hZ, hh⟩ := hP
  have hx := Bd.exec
  have hby := Bd.bytes
  have hlk : meth.locks = false := Bd.notSynchronized
  have hml : c.maxLocals = 6 := hml0
  have hown : s.vm.findClass "java/lang/StringUTF16" = some m.cls := findClass_of_methodNamed Bd.named
  have hnm := (name_of_methodNamed Bd.named Bd.method).1
  have X0 : Stand p l e ({ frames := 3, cells := 2, slots := 6, locals := 40 } : Room) s m #[(.ref a), (.int (0 : Int32)), (.int (2 : Int32))] below meth c s₁ [] 0 0 := Stand.of_body Bd
  have e0 : s₁.heap = h0 := by rw [← hh, Bd.state]; rfl
  have N0 := Fr.nil n0
  show OGets p e below (OLeaves s (Q_c3_20 Z a c0 c1 h0 n0 F ) ({ frames := 3, cells := 2, slots := 6, locals := 40 } : Room).cells ({ frames := 3, cells := 2, slots := 6, locals := 40 } : Room).slots) _
  refine OGets.enter (ef_c3_20 m a (0 : Int32) (2 : Int32)) ?_
  show OGets p e below _ (s₁.setTop (mkF m 0 #[.val (.ref a), .val (.int (0 : Int32)), .val (.int (2 : Int32)), .unset, .unset, .unset] []))
  refine OGets.step (fun _ => XS.iloadN X0.here hx rfl (hb hby dj52m16_0) rfl) ?_
  obtain ⟨T107, h107, k107, X107, e107, E107, A107, st107⟩ := newP X0 hx hZ (hw _ (List.mem_of_getElem? (i := 21) rfl)) e0 (g := (mkF m 1 #[.val (.ref a), .val (.int (0 : Int32)), .val (.int (2 : Int32)), .unset, .unset, .unset] [(.int (2 : Int32))])) rfl (hb hby dj52m16_1) rfl (by decide) (cap := 2) (by decide) (by decide) (by decide) (by decide)
  have V107' := V0.newArr Z0 E107 A107 2 rfl
  have Z107 : n0 ≤ h107.size := Nat.le_trans Z0 E107.1
  obtain ⟨b107, g107⟩ : ∃ z, z = h0.size := ⟨_, rfl⟩
  rw [← g107] at V107' st107
  have V107 : OView Z n0 h107 (((b107, Sum.inr (.byte, [(.int (0 : Int32)), (.int (0 : Int32))])) : Addr × OObj) :: ((a, Sum.inr (.char, [(.int c0), (.int c1)])) : Addr × OObj) :: F) := V107'
  have O107 := O0.ext E107
  refine OGets.step st107 ?_
  refine OGets.step (fun _ => XS.astoreN X107.here hx rfl (hb hby dj52m16_3) rfl rfl (l' := #[.val (.ref a), .val (.int (0 : Int32)), .val (.int (2 : Int32)), .val (.ref b107), .unset, .unset]) rfl) ?_
  refine OGets.step (fun _ => XS.aloadN X107.here hx rfl (hb hby dj52m16_4) rfl rfl) ?_
  refine OGets.step (fun _ => XS.iloadN X107.here hx rfl (hb hby dj52m16_5) rfl) ?_
  refine OGets.step (fun _ => XS.aloadN X107.here hx rfl (hb hby dj52m16_6) rfl rfl) ?_
  refine OGets.step (fun _ => XS.iconst X107.here hx rfl (hb hby dj52m16_7)) ?_
  show OGets p e below _ (T107.setTop (mkF m 8 #[.val (.ref a), .val (.int (0 : Int32)), .val (.int (2 : Int32)), .val (.ref b107), .unset, .unset] [(.int (0 : Int32)), (.ref b107), (.int (0 : Int32)), (.ref a)]))
  refine OGets.step (fun _ => XS.iloadN X107.here hx rfl (hb hby dj52m16_8) rfl) ?_
  have V108_ : OView Z _ h107 (((a, Sum.inr (.char, [(.int c0), (.int c1)])) : Addr × OObj) :: ((b107, Sum.inr (.byte, [(.int (0 : Int32)), (.int (0 : Int32))])) : Addr × OObj) :: F) := (V107.bring 1 rfl)
  obtain ⟨_, _, ⟨T108, L108, k108, n108⟩, -, X108, ⟨Lc108, hQ108, l108, y108, z108⟩, st108⟩ := Jvm.LawKit.callS X107 hx (y := (⟨"java/lang/StringUTF16", "compress", "([CI[BII)I"⟩ : MethodName)) hown (mvT hZ (hw _ (List.mem_of_getElem? (i := 49) rfl))) (mvT hZ (hw _ (List.mem_of_getElem? (i := 50) rfl))) (mvT hZ (hw _ (List.mem_of_getElem? (i := 47) rfl))) (mvT hZ (hw _ (List.mem_of_getElem? (i := 51) rfl))) (by decide) (backOf (W := 0) (rm_c5_20 l Z a0 hw [] a b107 c0 c1 h107 n0 _ Z107 u0 V108_ O107) hZ (hw _ (List.mem_of_getElem? (i := 51) rfl)) (hw _ (List.mem_of_getElem? (i := 47) rfl)) (by decide) (by decide)) (g := (mkF m 9 #[.val (.ref a), .val (.int (0 : Int32)), .val (.int (2 : Int32)), .val (.ref b107), .unset, .unset] [(.int (2 : Int32)), (.int (0 : Int32)), (.ref b107), (.int (0 : Int32)), (.ref a)])) rfl (by rw [hml]; rfl) (argsL := [(.ref a), (.int (0 : Int32)), (.ref b107), (.int (0 : Int32)), (.int (2 : Int32))]) (rest := []) (lenOf pd_5 rfl) rfl (by show 2 * 0 + _ ≤ _; exact Nat.le_of_eq rfl) (hb hby dj52m16_9) (fun _ _ => ⟨rfl, e107, Nat.le_of_ble_eq_true rfl, Nat.le_of_ble_eq_true rfl⟩)
  dsimp only [Pt.U, Pt.locs, Pt.cells, Pt.slots] at X108 l108 y108 z108 st108 hQ108
  rw [l108, y108, z108] at X108
  obtain ⟨rfl, N108q, V108, O108q⟩ := hQ108
  have N108 := Fr.app N0 N108q
  have V108v : OView Z n0 T108.heap (((a, Sum.inr (.char, [(.int c0), (.int c1)])) : Addr × OObj) :: ((b107, Sum.inr (.byte, [(.int (0 : Int32)), (.int (0 : Int32))])) : Addr × OObj) :: F) := V108
  have Z108 : n0 ≤ T108.heap.size := V108v.big 0 rfl
  refine OGets.step st108 ?_
  refine OGets.step (fun _ => XS.istore X108.here hx rfl (hb hby dj52m16_12) rfl (l' := #[.val (.ref a), .val (.int (0 : Int32)), .val (.int (2 : Int32)), .val (.ref b107), .val (.int (0 : Int32)), .unset]) rfl) ?_
  refine OGets.step (fun _ => XS.iload X108.here hx rfl (hb hby dj52m16_14) rfl) ?_
  refine OGets.step (fun _ => XS.iloadN X108.here hx rfl (hb hby dj52m16_16) rfl) ?_
  refine OGets.step (fun _ => XS.icmpNo X108.here hx rfl (hb hby dj52m16_17) rfl (feq (by decide : ¬ ((0 : Int32) = (2 : Int32)))).1) ?_
  refine OGets.step (fun _ => XS.aloadN X108.here hx rfl (hb hby dj52m16_20) rfl rfl) ?_
  show OGets p e below _ (T108.setTop (mkF m 21 #[.val (.ref a), .val (.int (0 : Int32)), .val (.int (2 : Int32)), .val (.ref b107), .val (.int (0 : Int32)), .unset] [(.ref a)]))
  refine OGets.step (fun _ => XS.iloadN X108.here hx rfl (hb hby dj52m16_21) rfl) ?_
  refine OGets.step (fun _ => XS.iloadN X108.here hx rfl (hb hby dj52m16_22) rfl) ?_
  obtain ⟨_, _, ⟨T110, L110, k110, n110⟩, -, X110, ⟨Lc110, hQ110, l110, y110, z110⟩, st110⟩ := Jvm.LawKit.callS X108 hx (y := (⟨"java/lang/StringUTF16", "toBytes", "([CII)[B"⟩ : MethodName)) hown (mvT hZ (hw _ (List.mem_of_getElem? (i := 55) rfl))) (mvT hZ (hw _ (List.mem_of_getElem? (i := 56) rfl))) (mvT hZ (hw _ (List.mem_of_getElem? (i := 47) rfl))) (mvT hZ (hw _ (List.mem_of_getElem? (i := 57) rfl))) (by decide) (backOf (W := 0) (rm_tob2 l Z a0 hw [] a c0 c1 T108.heap n0 _ Z108 SA SH SL V108v O108q) hZ (hw _ (List.mem_of_getElem? (i := 57) rfl)) (hw _ (List.mem_of_getElem? (i := 47) rfl)) (by decide) (by decide)) (g := (mkF m 23 #[.val (.ref a), .val (.int (0 : Int32)), .val (.int (2 : Int32)), .val (.ref b107), .val (.int (0 : Int32)), .unset] [(.int (2 : Int32)), (.int (0 : Int32)), (.ref a)])) rfl (by rw [hml]; rfl) (argsL := [(.ref a), (.int (0 : Int32)), (.int (2 : Int32))]) (rest := []) (lenOf pd_6 rfl) rfl (by show 2 * 0 + _ ≤ _; exact Nat.le_of_eq rfl) (hb hby dj52m16_23) (fun _ _ => ⟨rfl, rfl, Nat.le_of_ble_eq_true rfl, Nat.le_of_ble_eq_true rfl⟩)
  dsimp only [Pt.U, Pt.locs, Pt.cells, Pt.slots] at X110 l110 y110 z110 st110 hQ110
  rw [l110, y110, z110] at X110
  obtain ⟨b110, rfl, N110q, V110, O110q⟩ := hQ110
  have N110 := Fr.app N108 N110q
  have V110v : OView Z n0 T110.heap (((b110, Sum.inr (.byte, [(.int (hb' c0)), (.int (lb' c0)), (.int (hb' c1)), (.int (lb' c1))])) : Addr × OObj) :: ((a, Sum.inr (.char, [(.int c0), (.int c1)])) : Addr × OObj) :: ((b107, Sum.inr (.byte, [(.int (0 : Int32)), (.int (0 : Int32))])) : Addr × OObj) :: F) := V110
  have Z110 : n0 ≤ T110.heap.size := V110v.big 0 rfl
  refine OGets.step st110 ?_
  refine OGets.step (fun _ => XS.astore X110.here hx rfl (hb hby dj52m16_26) rfl rfl (l' := #[.val (.ref a), .val (.int (0 : Int32)), .val (.int (2 : Int32)), .val (.ref b107), .val (.int (0 : Int32)), .val (.ref b110)]) rfl) ?_
  refine OGets.step (fun _ => XS.aload X110.here hx rfl (hb hby dj52m16_28) rfl rfl) ?_
  refine OGets.step (fun _ => XS.iload X110.here hx rfl (hb hby dj52m16_30) rfl) ?_
  obtain ⟨_, _, ⟨T111, L111, k111, n111⟩, -, X111, ⟨Lc111, hQ111, l111, y111, z111⟩, st111⟩ := Jvm.LawKit.callS X110 hx (y := (⟨"java/lang/StringUTF16", "getChar", "([BI)C"⟩ : MethodName)) hown (mvT hZ (hw _ (List.mem_of_getElem? (i := 71) rfl))) (mvT hZ (hw _ (List.mem_of_getElem? (i := 72) rfl))) (mvT hZ (hw _ (List.mem_of_getElem? (i := 47) rfl))) (mvT hZ (hw _ (List.mem_of_getElem? (i := 73) rfl))) (by decide) (backOf (W := 0) (rm_gch20 l Z a0 hw [] b110 (hb' c0) (lb' c0) (hb' c1) (lb' c1) T110.heap n0 _ Z110 SA SH SL V110v O110q) hZ (hw _ (List.mem_of_getElem? (i := 73) rfl)) (hw _ (List.mem_of_getElem? (i := 47) rfl)) (by decide) (by decide)) (g := (mkF m 32 #[.val (.ref a), .val (.int (0 : Int32)), .val (.int (2 : Int32)), .val (.ref b107), .val (.int (0 : Int32)), .val (.ref b110)] [(.int (0 : Int32)), (.ref b110)])) rfl (by rw [hml]; rfl) (argsL := [(.ref b110), (.int (0 : Int32))]) (rest := []) (lenOf pd_7 rfl) rfl (by show 2 * 0 + _ ≤ _; exact Nat.le_of_eq rfl) (hb hby dj52m16_32) (fun _ _ => ⟨rfl, rfl, Nat.le_of_ble_eq_true rfl, Nat.le_of_ble_eq_true rfl⟩)
  dsimp only [Pt.U, Pt.locs, Pt.cells, Pt.slots] at X111 l111 y111 z111 st111 hQ111
  rw [l111, y111, z111] at X111
  obtain ⟨rfl, rfl, e111⟩ := hQ111
  have N111 := Fr.app N110 (Fr.nil n0)
  refine OGets.step st111 ?_
  refine OGets.step (fun _ => XS.sipush X111.here hx rfl (hb hby dj52m16_35)) ?_
  refine OGets.step (fun _ => XS.icmpYes X111.here hx rfl (pc0 := 38) (pc' := 54) rfl (hb hby dj52m16_38) rfl (tlt (own_gc w0 u0 : (255 : Int32) < (gcv (hb' c0) (lb' c0)))).2.2.1 (by decide) (by decide)) ?_
  refine OGets.step (fun _ => XS.aload X111.here hx rfl (hb hby dj52m16_54) rfl rfl) ?_
  refine OGets.retA X111 hx hlk (t := (.array .byte)) Bd.returns rfl rfl rfl (hb hby dj52m16_56) (Nat.le_of_ble_eq_true rfl) (Nat.le_of_ble_eq_true rfl) ?_
  have Vd113 : OView Z _ T110.heap (((b110, Sum.inr (.byte, [(.int (hb' c0)), (.int (lb' c0)), (.int (hb' c1)), (.int (lb' c1))])) : Addr × OObj) :: ((a, Sum.inr (.char, [(.int c0), (.int c1)])) : Addr × OObj) :: F) := (V110v.bring 2 rfl).tail
  rw [e111]
  exact ⟨b110, rfl, N111, Vd113, O110q⟩
theorem ef_i4_20 (m : MethodId) (x0 : Addr) (x1 : Addr) (x2 : Int32) (x3 : Int32) : entryFrame m #[(.ref x0), (.ref x1), (.int x2), (.int x3), .null] 6 = mkF m 0 #[.val (.ref x0), .val (.ref x1), .val (.int x2), .val (.int x3), .val .null, .unset] [] := by first | (simp [entryFrame, mkF, argsToLocals, Value.category]; done) | rfl
def Q_i4_20 (Z : State) (a : Addr) (q : Addr) (G : Int32) (c0 : Int32) (c1 : Int32) (h0 : Heap) (n0 : Nat) (F : List (Addr × OObj)) (v : Option Value) (h : Heap) (L : List Loc) : Prop := v = none ∧ Fr n0 L ∧ ∃ b : Addr, OView Z n0 h (((a, Sum.inl ("java/lang/String", ns_String, [(.ref b), (.int (1 : Int32))])) : Addr × OObj) :: ((b, Sum.inr (.byte, [(.int (hb' c0)), (.int (lb' c0)), (.int (hb' c1)), (.int (lb' c1))])) : Addr × OObj) :: ((q, Sum.inr (.char, [(.int c0), (.int c1)])) : Addr × OObj) :: F) ∧ Old Z n0 h
set_option maxRecDepth 65536 in
set_option maxHeartbeats 40000000 in
theorem rm_i4_20 (l : Launch) (Z : State) (a0 : Array Value) (hw : ∀ d ∈ tables_1, d.before a0 Z = true) (ws : List Jvm.Cond) (a : Addr) (q : Addr) (G : Int32) (c0 : Int32) (c1 : Int32) (h0 : Heap) (n0 : Nat) (F : List (Addr × OObj)) (Z0 : n0 ≤ h0.size) (S0 : Sta Z Z.heap "java/lang/String" "COMPACT_STRINGS" "Z" (.int G)) (hG : ¬ G = (0 : Int32)) (SA : Sta Z Z.heap "java/lang/StringUTF16" "$assertionsDisabled" "Z" (.int (1 : Int32))) (SH : Sta Z Z.heap "java/lang/StringUTF16" "HI_BYTE_SHIFT" "I" (.int (0 : Int32))) (SL : Sta Z Z.heap "java/lang/StringUTF16" "LO_BYTE_SHIFT" "I" (.int (8 : Int32))) (u0 : (255 : Int32) < c0) (w0 : Ch c0) (V0 : OView Z n0 h0 (((a, Sum.inl ("java/lang/String", ns_String, [.null, (.int (0 : Int32))])) : Addr × OObj) :: ((q, Sum.inr (.char, [(.int c0), (.int c1)])) : Addr × OObj) :: F)) (O0 : Old Z n0 h0) :
    MetFree l (⟨"java/lang/String", "<init>", "([CIILjava/lang/Void;)V"⟩ : MethodName) (head1 (Jvm.Cond.code (⟨"java/lang/String", "<init>", "([CIILjava/lang/Void;)V"⟩ : MethodName) jdk_42_method_149_code 6 none :: ws) ({ frames := 4, cells := 2, slots := 6, locals := 57 } : Room)) (fun a_ U => a_ = #[(.ref a), (.ref q), (.int (0 : Int32)), (.int (2 : Int32)), .null] ∧ Z.Warmed39 U.vm ∧ U.heap = h0) (fun _ _ _ _ _ => True) (fun _ U o U' => ∃ v L, o = .returned v ∧ Q_i4_20 Z a q G c0 c1 h0 n0 F v U'.heap L ∧ FrameEnd U o U' L ({ frames := 4, cells := 2, slots := 6, locals := 57 } : Room).cells ({ frames := 4, cells := 2, slots := 6, locals := 57 } : Room).slots) := by
  refine MetFree.of_bodySF (plainFor_of_name pn_8) hisR ?_
  intro p e s m args below meth c s₁ Bd hml0 hP hK
  obtain ⟨rfl, hZ, hh⟩ := hP
  have hx := Bd.exec
  have hby := Bd.bytes
  have hlk : meth.locks = false := Bd.notSynchronized
  have hml : c.maxLocals = 6 := hml0
  have hown : s.vm.findClass "java/lang/String" = some m.cls := findClass_of_methodNamed Bd.named
  have hnm := (name_of_methodNamed Bd.named Bd.method).1
  have X0 : Stand p l e ({ frames := 4, cells := 2, slots := 6, locals := 57 } : Room) s m #[(.ref a), (.ref q), (.int (0 : Int32)), (.int (2 : Int32)), .null] below meth c s₁ [] 0 0 := Stand.of_body Bd
  have e0 : s₁.heap = h0 := by rw [← hh, Bd.state]; rfl
  have N0 := Fr.nil n0
  show OGets p e below (OLeaves s (Q_i4_20 Z a q G c0 c1 h0 n0 F ) ({ frames := 4, cells := 2, slots := 6, locals := 57 } : Room).cells ({ frames := 4, cells := 2, slots := 6, locals := 57 } : Room).slots) _
  refine OGets.enter (ef_i4_20 m a q (0 : Int32) (2 : Int32)) ?_
  show OGets p e below _ (s₁.setTop (mkF m 0 #[.val (.ref a), .val (.ref q), .val (.int (0 : Int32)), .val (.int (2 : Int32)), .val .null, .unset] []))
  refine OGets.step (fun _ => XS.aloadN X0.here hx rfl (hb hby dj42m149_0) rfl rfl) ?_
  obtain ⟨T114, X114, e114, st114⟩ := initO X0 hx hZ hown (hw _ (List.mem_of_getElem? (i := 17) rfl)) (hw _ (List.mem_of_getElem? (i := 18) rfl)) (hw _ (List.mem_of_getElem? (i := 19) rfl)) e0 (g := (mkF m 1 #[.val (.ref a), .val (.ref q), .val (.int (0 : Int32)), .val (.int (2 : Int32)), .val .null, .unset] [(.ref a)])) rfl (by rw [hml]; rfl) rfl (hb hby dj42m149_1) (by decide) (W := 0) (by show 2 * 0 + _ ≤ _; exact Nat.le_of_eq rfl) (by decide)
  refine OGets.step st114 ?_
  refine OGets.step (fun _ => XS.iloadN X114.here hx rfl (hb hby dj42m149_4) rfl) ?_
  refine OGets.step (fun _ => XS.ifYes X114.here hx rfl (pc0 := 5) (pc' := 27) rfl (hb hby dj42m149_5) rfl ((if0 _ _).trans (feq (by decide : ¬ ((2 : Int32) = (0 : Int32)))).2) (by decide) (by decide)) ?_
  obtain ⟨T116, X116, e116, st116⟩ := getS2 X114 hx hZ hown (host := "") (Or.inl (hw _ (List.mem_of_getElem? (i := 39) rfl))) Via.refl e114 (S0.ext O0.2) (g := (mkF m 27 #[.val (.ref a), .val (.ref q), .val (.int (0 : Int32)), .val (.int (2 : Int32)), .val .null, .unset] [])) rfl (hb hby dj42m149_27)
  refine OGets.step st116 ?_
  refine OGets.step (fun _ => XS.ifNo X116.here hx rfl (hb hby dj42m149_30) rfl ((if0 _ _).trans (feq (hG : ¬ (G = (0 : Int32)))).1)) ?_
  refine OGets.step (fun _ => XS.aloadN X116.here hx rfl (hb hby dj42m149_33) rfl rfl) ?_
  refine OGets.step (fun _ => XS.iloadN X116.here hx rfl (hb hby dj42m149_34) rfl) ?_
  refine OGets.step (fun _ => XS.iloadN X116.here hx rfl (hb hby dj42m149_35) rfl) ?_
  have V118_ : OView Z _ h0 (((q, Sum.inr (.char, [(.int c0), (.int c1)])) : Addr × OObj) :: ((a, Sum.inl ("java/lang/String", ns_String, [.null, (.int (0 : Int32))])) : Addr × OObj) :: F) := (V0.bring 1 rfl)
  obtain ⟨_, _, ⟨T118, L118, k118, n118⟩, -, X118, ⟨Lc118, hQ118, l118, y118, z118⟩, st118⟩ := Jvm.LawKit.callS X116 hx (y := (⟨"java/lang/StringUTF16", "compress", "([CII)[B"⟩ : MethodName)) hown (mvT hZ (hw _ (List.mem_of_getElem? (i := 45) rfl))) (mvT hZ (hw _ (List.mem_of_getElem? (i := 46) rfl))) (mvT hZ (hw _ (List.mem_of_getElem? (i := 47) rfl))) (mvT hZ (hw _ (List.mem_of_getElem? (i := 48) rfl))) (by decide) (backOf (W := 0) (rm_c3_20 l Z a0 hw [] q c0 c1 h0 n0 _ Z0 SA SH SL u0 w0 V118_ O0) hZ (hw _ (List.mem_of_getElem? (i := 48) rfl)) (hw _ (List.mem_of_getElem? (i := 47) rfl)) (by decide) (by decide)) (g := (mkF m 36 #[.val (.ref a), .val (.ref q), .val (.int (0 : Int32)), .val (.int (2 : Int32)), .val .null, .unset] [(.int (2 : Int32)), (.int (0 : Int32)), (.ref q)])) rfl (by rw [hml]; rfl) (argsL := [(.ref q), (.int (0 : Int32)), (.int (2 : Int32))]) (rest := []) (lenOf pd_6 rfl) rfl (by show 2 * 0 + _ ≤ _; exact Nat.le_of_eq rfl) (hb hby dj42m149_36) (fun _ _ => ⟨rfl, e116, Nat.le_of_ble_eq_true rfl, Nat.le_of_ble_eq_true rfl⟩)
  dsimp only [Pt.U, Pt.locs, Pt.cells, Pt.slots] at X118 l118 y118 z118 st118 hQ118
  rw [l118, y118, z118] at X118
  obtain ⟨b118, rfl, N118q, V118, O118q⟩ := hQ118
  have N118 := Fr.app N0 N118q
  have V118v : OView Z n0 T118.heap (((b118, Sum.inr (.byte, [(.int (hb' c0)), (.int (lb' c0)), (.int (hb' c1)), (.int (lb' c1))])) : Addr × OObj) :: ((q, Sum.inr (.char, [(.int c0), (.int c1)])) : Addr × OObj) :: ((a, Sum.inl ("java/lang/String", ns_String, [.null, (.int (0 : Int32))])) : Addr × OObj) :: F) := V118
  have Z118 : n0 ≤ T118.heap.size := V118v.big 0 rfl
  refine OGets.step st118 ?_
  refine OGets.step (fun _ => XS.astore X118.here hx rfl (hb hby dj42m149_39) rfl rfl (l' := #[.val (.ref a), .val (.ref q), .val (.int (0 : Int32)), .val (.int (2 : Int32)), .val .null, .val (.ref b118)]) rfl) ?_
  refine OGets.step (fun _ => XS.aloadN X118.here hx rfl (hb hby dj42m149_41) rfl rfl) ?_
  refine OGets.step (fun _ => XS.aload X118.here hx rfl (hb hby dj42m149_42) rfl rfl) ?_
  refine OGets.step (fun _ => XS.iloadN X118.here hx rfl (hb hby dj42m149_44) rfl) ?_
  obtain ⟨_, _, ⟨T119, L119, k119, n119⟩, -, X119, ⟨Lc119, hQ119, l119, y119, z119⟩, st119⟩ := Jvm.LawKit.callS X118 hx (y := (⟨"java/lang/StringUTF16", "coderFromArrayLen", "([BI)B"⟩ : MethodName)) hown (mvT hZ (hw _ (List.mem_of_getElem? (i := 52) rfl))) (mvT hZ (hw _ (List.mem_of_getElem? (i := 53) rfl))) (mvT hZ (hw _ (List.mem_of_getElem? (i := 47) rfl))) (mvT hZ (hw _ (List.mem_of_getElem? (i := 54) rfl))) (by decide) (backOf (W := 1) (rm_cfl21 l Z a0 hw [] b118 (hb' c0) (lb' c0) (hb' c1) (lb' c1) T118.heap n0 _ Z118  V118v) hZ (hw _ (List.mem_of_getElem? (i := 54) rfl)) (hw _ (List.mem_of_getElem? (i := 47) rfl)) (by decide) (by decide)) (g := (mkF m 45 #[.val (.ref a), .val (.ref q), .val (.int (0 : Int32)), .val (.int (2 : Int32)), .val .null, .val (.ref b118)] [(.int (2 : Int32)), (.ref b118), (.ref a)])) rfl (by rw [hml]; rfl) (argsL := [(.ref b118), (.int (2 : Int32))]) (rest := [(.ref a)]) (lenOf pd_9 rfl) rfl (by show 2 * 0 + _ ≤ _; exact Nat.le_of_eq rfl) (hb hby dj42m149_45) (fun _ _ => ⟨rfl, rfl, Nat.le_of_ble_eq_true rfl, Nat.le_of_ble_eq_true rfl⟩)
  dsimp only [Pt.U, Pt.locs, Pt.cells, Pt.slots] at X119 l119 y119 z119 st119 hQ119
  rw [l119, y119, z119] at X119
  obtain ⟨rfl, rfl, e119⟩ := hQ119
  have N119 := Fr.app N118 (Fr.nil n0)
  refine OGets.step st119 ?_
  obtain ⟨T120, h120, X120, e120, W120, st120⟩ := putFN X119 hx hZ hown (hw _ (List.mem_of_getElem? (i := 27) rfl)) Via.refl e119 (V118v.fld 2 rfl 1 rfl rfl) (V118v.exa 2 rfl) (Or.inr ⟨(hw _ (List.mem_of_getElem? (i := 23) rfl)), rfl, hnm⟩) (hw _ (List.mem_of_getElem? (i := 7) rfl)) (ty := .byte) (v' := (.int (1 : Int32))) (by decide) rfl (by decide) (g := (mkF m 48 #[.val (.ref a), .val (.ref q), .val (.int (0 : Int32)), .val (.int (2 : Int32)), .val .null, .val (.ref b118)] [(.int (1 : Int32)), (.ref a)])) rfl rfl (hb hby dj42m149_48)
  have V120 : OView Z n0 h120 (((b118, Sum.inr (.byte, [(.int (hb' c0)), (.int (lb' c0)), (.int (hb' c1)), (.int (lb' c1))])) : Addr × OObj) :: ((q, Sum.inr (.char, [(.int c0), (.int c1)])) : Addr × OObj) :: ((a, Sum.inl ("java/lang/String", ns_String, [.null, (.int (1 : Int32))])) : Addr × OObj) :: F) := V118v.putF 2 rfl 1 rfl W120
  have N120 := Fr.snoc X120 N119 (V118v.old 2 rfl)
  have Z120 : n0 ≤ h120.size := by rw [W120.size]; exact Z118
  have O120 := O118q.wr W120 (V118v.old 2 rfl)
  refine OGets.step st120 ?_
  refine OGets.step (fun _ => XS.aloadN X120.here hx rfl (hb hby dj42m149_51) rfl rfl) ?_
  refine OGets.step (fun _ => XS.aload X120.here hx rfl (hb hby dj42m149_52) rfl rfl) ?_
  obtain ⟨T121, h121, X121, e121, W121, st121⟩ := putF X120 hx hZ hown (host := "") (Or.inl (hw _ (List.mem_of_getElem? (i := 26) rfl))) Via.refl e120 (V120.fld 2 rfl 0 rfl rfl) (V120.exa 2 rfl) (Or.inr ⟨(hw _ (List.mem_of_getElem? (i := 22) rfl)), rfl, hnm⟩) (hw _ (List.mem_of_getElem? (i := 7) rfl)) (ty := (.array .byte)) (by decide) rfl rfl (g := (mkF m 54 #[.val (.ref a), .val (.ref q), .val (.int (0 : Int32)), .val (.int (2 : Int32)), .val .null, .val (.ref b118)] [(.ref b118), (.ref a)])) rfl rfl (hb hby dj42m149_54)
  have V121 : OView Z n0 h121 (((b118, Sum.inr (.byte, [(.int (hb' c0)), (.int (lb' c0)), (.int (hb' c1)), (.int (lb' c1))])) : Addr × OObj) :: ((q, Sum.inr (.char, [(.int c0), (.int c1)])) : Addr × OObj) :: ((a, Sum.inl ("java/lang/String", ns_String, [(.ref b118), (.int (1 : Int32))])) : Addr × OObj) :: F) := V120.putF 2 rfl 0 rfl W121
  have N121 := Fr.snoc X121 N120 (V120.old 2 rfl)
  have Z121 : n0 ≤ h121.size := by rw [W121.size]; exact Z120
  have O121 := O120.wr W121 (V120.old 2 rfl)
  refine OGets.step st121 ?_
  refine OGets.retV X121 hx hlk Bd.returns (hb hby dj42m149_57) (Nat.le_of_ble_eq_true rfl) (Nat.le_of_ble_eq_true rfl) ?_
  have Vp122 : OView Z _ h121 (((a, Sum.inl ("java/lang/String", ns_String, [(.ref b118), (.int (1 : Int32))])) : Addr × OObj) :: ((b118, Sum.inr (.byte, [(.int (hb' c0)), (.int (lb' c0)), (.int (hb' c1)), (.int (lb' c1))])) : Addr × OObj) :: ((q, Sum.inr (.char, [(.int c0), (.int c1)])) : Addr × OObj) :: F) := (V121.bring 2 rfl)
  rw [e121]
  exact ⟨rfl, N121, b118, Vp122, O121⟩
theorem ef_i1_20 (m : MethodId) (x0 : Addr) (x1 : Addr) : entryFrame m #[(.ref x0), (.ref x1)] 2 = mkF m 0 #[.val (.ref x0), .val (.ref x1)] [] := by first | (simp [entryFrame, mkF, argsToLocals, Value.category]; done) | rfl
def Q_i1_20 (Z : State) (a : Addr) (q : Addr) (G : Int32) (c0 : Int32) (c1 : Int32) (h0 : Heap) (n0 : Nat) (F : List (Addr × OObj)) (v : Option Value) (h : Heap) (L : List Loc) : Prop := v = none ∧ Fr n0 L ∧ ∃ b : Addr, OView Z n0 h (((a, Sum.inl ("java/lang/String", ns_String, [(.ref b), (.int (1 : Int32))])) : Addr × OObj) :: ((b, Sum.inr (.byte, [(.int (hb' c0)), (.int (lb' c0)), (.int (hb' c1)), (.int (lb' c1))])) : Addr × OObj) :: ((q, Sum.inr (.char, [(.int c0), (.int c1)])) : Addr × OObj) :: F) ∧ Old Z n0 h
set_option maxRecDepth 65536 in
set_option maxHeartbeats 40000000 in
theorem rm_i1_20 (l : Launch) (Z : State) (a0 : Array Value) (hw : ∀ d ∈ tables_1, d.before a0 Z = true) (ws : List Jvm.Cond) (a : Addr) (q : Addr) (G : Int32) (c0 : Int32) (c1 : Int32) (h0 : Heap) (n0 : Nat) (F : List (Addr × OObj)) (Z0 : n0 ≤ h0.size) (S0 : Sta Z Z.heap "java/lang/String" "COMPACT_STRINGS" "Z" (.int G)) (hG : ¬ G = (0 : Int32)) (SA : Sta Z Z.heap "java/lang/StringUTF16" "$assertionsDisabled" "Z" (.int (1 : Int32))) (SH : Sta Z Z.heap "java/lang/StringUTF16" "HI_BYTE_SHIFT" "I" (.int (0 : Int32))) (SL : Sta Z Z.heap "java/lang/StringUTF16" "LO_BYTE_SHIFT" "I" (.int (8 : Int32))) (u0 : (255 : Int32) < c0) (w0 : Ch c0) (V0 : OView Z n0 h0 (((a, Sum.inl ("java/lang/String", ns_String, [.null, (.int (0 : Int32))])) : Addr × OObj) :: ((q, Sum.inr (.char, [(.int c0), (.int c1)])) : Addr × OObj) :: F)) (O0 : Old Z n0 h0) :
    MetFree l (⟨"java/lang/String", "<init>", "([C)V"⟩ : MethodName) (head1 (Jvm.Cond.code (⟨"java/lang/String", "<init>", "([C)V"⟩ : MethodName) jdk_42_method_3_code 2 none :: ws) ({ frames := 5, cells := 2, slots := 6, locals := 74 } : Room)) (fun a_ U => a_ = #[(.ref a), (.ref q)] ∧ Z.Warmed39 U.vm ∧ U.heap = h0) (fun _ _ _ _ _ => True) (fun _ U o U' => ∃ v L, o = .returned v ∧ Q_i1_20 Z a q G c0 c1 h0 n0 F v U'.heap L ∧ FrameEnd U o U' L ({ frames := 5, cells := 2, slots := 6, locals := 74 } : Room).cells ({ frames := 5, cells := 2, slots := 6, locals := 74 } : Room).slots) := by
  refine MetFree.of_bodySF (plainFor_of_name pn_8) hisR ?_
  intro p e s m args below meth c s₁ Bd hml0 hP hK
  obtain ⟨rfl, hZ, hh⟩ := hP
  have hx := Bd.exec
  have hby := Bd.bytes
  have hlk : meth.locks = false := Bd.notSynchronized
  have hml : c.maxLocals = 2 := hml0
  have hown : s.vm.findClass "java/lang/String" = some m.cls := findClass_of_methodNamed Bd.named
  have hnm := (name_of_methodNamed Bd.named Bd.method).1
  have X0 : Stand p l e ({ frames := 5, cells := 2, slots := 6, locals := 74 } : Room) s m #[(.ref a), (.ref q)] below meth c s₁ [] 0 0 := Stand.of_body Bd
  have e0 : s₁.heap = h0 := by rw [← hh, Bd.state]; rfl
  have N0 := Fr.nil n0
  show OGets p e below (OLeaves s (Q_i1_20 Z a q G c0 c1 h0 n0 F ) ({ frames := 5, cells := 2, slots := 6, locals := 74 } : Room).cells ({ frames := 5, cells := 2, slots := 6, locals := 74 } : Room).slots) _
  refine OGets.enter (ef_i1_20 m a q) ?_
  show OGets p e below _ (s₁.setTop (mkF m 0 #[.val (.ref a), .val (.ref q)] []))
  refine OGets.step (fun _ => XS.aloadN X0.here hx rfl (hb hby dj42m3_0) rfl rfl) ?_
  refine OGets.step (fun _ => XS.aloadN X0.here hx rfl (hb hby dj42m3_1) rfl rfl) ?_
  refine OGets.step (fun _ => XS.iconst X0.here hx rfl (hb hby dj42m3_2)) ?_
  refine OGets.step (fun _ => XS.aloadN X0.here hx rfl (hb hby dj42m3_3) rfl rfl) ?_
  obtain ⟨cl123, Ar123, S123⟩ := V0.arr 1 rfl
  have ln123 : cl123.slots.size.toInt32 = (2 : Int32) := by rw [own_len S123]; rfl
  refine OGets.step (U' := s₁.setTop (mkF m 5 #[.val (.ref a), .val (.ref q)] [(.int (2 : Int32)), (.int (0 : Int32)), (.ref q), (.ref a)])) (fun t kt => ?_) ?_
  · refine X0.arraylength hx (by rw [e0]; exact Ar123.1) (State.isArrayOf_alike hZ.alike Ar123.2.1) (g := (mkF m 4 #[.val (.ref a), .val (.ref q)] [(.ref q), (.int (0 : Int32)), (.ref q), (.ref a)])) rfl rfl (hb hby dj42m3_4) _ ?_
    rw [ln123]; exact kt
  refine OGets.step (fun _ => XS.aconstNull X0.here hx rfl (hb hby dj42m3_5)) ?_
  show OGets p e below _ (s₁.setTop (mkF m 6 #[.val (.ref a), .val (.ref q)] [.null, (.int (2 : Int32)), (.int (0 : Int32)), (.ref q), (.ref a)]))
  obtain ⟨_, _, ⟨T124, L124, k124, n124⟩, -, X124, ⟨Lc124, hQ124, l124, y124, z124⟩, st124⟩ := X0.specialBack hx (y := (⟨"java/lang/String", "<init>", "([CIILjava/lang/Void;)V"⟩ : MethodName)) rfl hown (mvT hZ (hw _ (List.mem_of_getElem? (i := 13) rfl))) (mvT hZ (hw _ (List.mem_of_getElem? (i := 14) rfl))) (mvT hZ (hw _ (List.mem_of_getElem? (i := 16) rfl))) (by decide) (backOf (W := 0) (rm_i4_20 l Z a0 hw [] a q G c0 c1 h0 n0 _ Z0 S0 hG SA SH SL u0 w0 V0 O0) hZ (hw _ (List.mem_of_getElem? (i := 16) rfl)) (hw _ (List.mem_of_getElem? (i := 8) rfl)) (by decide) (by decide)) (g := (mkF m 6 #[.val (.ref a), .val (.ref q)] [.null, (.int (2 : Int32)), (.int (0 : Int32)), (.ref q), (.ref a)])) rfl (by rw [hml]; rfl) (Steps.refl _) (a := a) (argsL := [(.ref q), (.int (0 : Int32)), (.int (2 : Int32)), .null]) (rest := []) (lenOf pd_10 rfl) rfl (by show 2 * 0 + _ ≤ _; exact Nat.le_of_eq rfl) (hb hby dj42m3_6) (fun _ _ => ⟨rfl, e0, Nat.le_of_ble_eq_true rfl, Nat.le_of_ble_eq_true rfl⟩)
  dsimp only [Pt.U, Pt.locs, Pt.cells, Pt.slots] at X124 l124 y124 z124 st124 hQ124
  rw [l124, y124, z124] at X124
  obtain ⟨rfl, N124q, b124, V124, O124q⟩ := hQ124
  have N124 := Fr.app N0 N124q
  have V124v : OView Z n0 T124.heap (((a, Sum.inl ("java/lang/String", ns_String, [(.ref b124), (.int (1 : Int32))])) : Addr × OObj) :: ((b124, Sum.inr (.byte, [(.int (hb' c0)), (.int (lb' c0)), (.int (hb' c1)), (.int (lb' c1))])) : Addr × OObj) :: ((q, Sum.inr (.char, [(.int c0), (.int c1)])) : Addr × OObj) :: F) := V124
  have Z124 : n0 ≤ T124.heap.size := V124v.big 0 rfl
  refine OGets.after st124 ?_
  refine OGets.retV X124 hx hlk Bd.returns (hb hby dj42m3_9) (Nat.le_of_ble_eq_true rfl) (Nat.le_of_ble_eq_true rfl) ?_
  exact ⟨rfl, N124, b124, V124v, O124q⟩
theorem ef_c5_21 (m : MethodId) (x0 : Addr) (x1 : Int32) (x2 : Addr) (x3 : Int32) (x4 : Int32) : entryFrame m #[(.ref x0), (.int x1), (.ref x2), (.int x3), (.int x4)] 7 = mkF m 0 #[.val (.ref x0), .val (.int x1), .val (.ref x2), .val (.int x3), .val (.int x4), .unset, .unset] [] := by first | (simp [entryFrame, mkF, argsToLocals, Value.category]; done) | rfl
def Q_c5_21 (Z : State) (a : Addr) (b : Addr) (c0 : Int32) (c1 : Int32) (h0 : Heap) (n0 : Nat) (F : List (Addr × OObj)) (v : Option Value) (h : Heap) (L : List Loc) : Prop := v = some (.int (1 : Int32)) ∧ Fr n0 L ∧ OView Z n0 h (((a, Sum.inr (.char, [(.int c0), (.int c1)])) : Addr × OObj) :: ((b, Sum.inr (.byte, [(.int (yb c0)), (.int (0 : Int32))])) : Addr × OObj) :: F) ∧ Old Z n0 h
set_option maxRecDepth 65536 in
set_option maxHeartbeats 40000000 in
theorem rm_c5_21 (l : Launch) (Z : State) (a0 : Array Value) (hw : ∀ d ∈ tables_1, d.before a0 Z = true) (ws : List Jvm.Cond) (a : Addr) (b : Addr) (c0 : Int32) (c1 : Int32) (h0 : Heap) (n0 : Nat) (F : List (Addr × OObj)) (Z0 : n0 ≤ h0.size) (u0 : ¬ (255 : Int32) < c0) (u1 : (255 : Int32) < c1) (V0 : OView Z n0 h0 (((a, Sum.inr (.char, [(.int c0), (.int c1)])) : Addr × OObj) :: ((b, Sum.inr (.byte, [(.int (0 : Int32)), (.int (0 : Int32))])) : Addr × OObj) :: F)) (O0 : Old Z n0 h0) :
    MetFree l (⟨"java/lang/StringUTF16", "compress", "([CI[BII)I"⟩ : MethodName) (head1 (Jvm.Cond.code (⟨"java/lang/StringUTF16", "compress", "([CI[BII)I"⟩ : MethodName) jdk_52_method_21_code 7 (some .int) :: ws) ({ frames := 0, cells := 0, slots := 0, locals := 0 } : Room)) (fun a_ U => a_ = #[(.ref a), (.int (0 : Int32)), (.ref b), (.int (0 : Int32)), (.int (2 : Int32))] ∧ Z.Warmed39 U.vm ∧ U.heap = h0) (fun _ _ _ _ _ => True) (fun _ U o U' => ∃ v L, o = .returned v ∧ Q_c5_21 Z a b c0 c1 h0 n0 F v U'.heap L ∧ FrameEnd U o U' L ({ frames := 0, cells := 0, slots := 0, locals := 0 } : Room).cells ({ frames := 0, cells := 0, slots := 0, locals := 0 } : Room).slots) := by
  refine MetFree.of_bodySF (plainFor_of_name pn_1) hisR ?_
  intro p e s m args below meth c s₁ Bd hml0 hP hK
  obtain ⟨rfl, hZ, hh⟩ := hP
  have hx := Bd.exec
  have hby := Bd.bytes
  have hlk : meth.locks = false := Bd.notSynchronized
  have hml : c.maxLocals = 7 := hml0
  have hown : s.vm.findClass "java/lang/StringUTF16" = some m.cls := findClass_of_methodNamed Bd.named
  have hnm := (name_of_methodNamed Bd.named Bd.method).1
  have X0 : Stand p l e ({ frames := 0, cells := 0, slots := 0, locals := 0 } : Room) s m #[(.ref a), (.int (0 : Int32)), (.ref b), (.int (0 : Int32)), (.int (2 : Int32))] below meth c s₁ [] 0 0 := Stand.of_body Bd
  have e0 : s₁.heap = h0 := by rw [← hh, Bd.state]; rfl
  have N0 := Fr.nil n0
  show OGets p e below (OLeaves s (Q_c5_21 Z a b c0 c1 h0 n0 F ) ({ frames := 0, cells := 0, slots := 0, locals := 0 } : Room).cells ({ frames := 0, cells := 0, slots := 0, locals := 0 } : Room).slots) _
  refine OGets.enter (ef_c5_21 m a (0 : Int32) b (0 : Int32) (2 : Int32)) ?_
  show OGets p e below _ (s₁.setTop (mkF m 0 #[.val (.ref a), .val (.int (0 : Int32)), .val (.ref b), .val (.int (0 : Int32)), .val (.int (2 : Int32)), .unset, .unset] []))
  refine OGets.step (fun _ => XS.iconst X0.here hx rfl (hb hby dj52m21_0)) ?_
  refine OGets.step (fun _ => XS.istore X0.here hx rfl (hb hby dj52m21_1) rfl (l' := #[.val (.ref a), .val (.int (0 : Int32)), .val (.ref b), .val (.int (0 : Int32)), .val (.int (2 : Int32)), .val (.int (0 : Int32)), .unset]) rfl) ?_
  refine OGets.step (fun _ => XS.iload X0.here hx rfl (hb hby dj52m21_3) rfl) ?_
  refine OGets.step (fun _ => XS.iload X0.here hx rfl (hb hby dj52m21_5) rfl) ?_
  refine OGets.step (fun _ => XS.icmpNo X0.here hx rfl (hb hby dj52m21_7) rfl (tlt (by decide : (0 : Int32) < (2 : Int32))).2.1) ?_
  refine OGets.step (fun _ => XS.aloadN X0.here hx rfl (hb hby dj52m21_10) rfl rfl) ?_
  show OGets p e below _ (s₁.setTop (mkF m 11 #[.val (.ref a), .val (.int (0 : Int32)), .val (.ref b), .val (.int (0 : Int32)), .val (.int (2 : Int32)), .val (.int (0 : Int32)), .unset] [(.ref a)]))
  refine OGets.step (fun _ => XS.iloadN X0.here hx rfl (hb hby dj52m21_11) rfl) ?_
  obtain ⟨cl126, Ar126, S126⟩ := V0.arr 0 rfl
  refine OGets.step (fun _ => X0.caload hx (j := (0 : Int32)) (v := (.int c0)) (by rw [e0]; exact Ar126.1) (State.isArrayOf_alike hZ.alike Ar126.2.1) Ar126.2.2 (own_inb S126 0 (by decide) (Nat.le_of_ble_eq_true rfl)) (own_get S126 0 (by decide) rfl) (g := (mkF m 12 #[.val (.ref a), .val (.int (0 : Int32)), .val (.ref b), .val (.int (0 : Int32)), .val (.int (2 : Int32)), .val (.int (0 : Int32)), .unset] [(.int (0 : Int32)), (.ref a)])) rfl rfl (hb hby dj52m21_12) _) ?_
  refine OGets.step (fun _ => XS.istore X0.here hx rfl (hb hby dj52m21_13) rfl (l' := #[.val (.ref a), .val (.int (0 : Int32)), .val (.ref b), .val (.int (0 : Int32)), .val (.int (2 : Int32)), .val (.int (0 : Int32)), .val (.int c0)]) rfl) ?_
  refine OGets.step (fun _ => XS.iload X0.here hx rfl (hb hby dj52m21_15) rfl) ?_
  refine OGets.step (fun _ => XS.sipush X0.here hx rfl (hb hby dj52m21_17)) ?_
  refine OGets.step (fun _ => XS.icmpYes X0.here hx rfl (pc0 := 20) (pc' := 26) rfl (hb hby dj52m21_20) rfl (flt (u0 : ¬ ((255 : Int32) < c0))).2.2.2 (by decide) (by decide)) ?_
  show OGets p e below _ (s₁.setTop (mkF m 26 #[.val (.ref a), .val (.int (0 : Int32)), .val (.ref b), .val (.int (0 : Int32)), .val (.int (2 : Int32)), .val (.int (0 : Int32)), .val (.int c0)] []))
  refine OGets.step (fun _ => XS.aloadN X0.here hx rfl (hb hby dj52m21_26) rfl rfl) ?_
  refine OGets.step (fun _ => XS.iloadN X0.here hx rfl (hb hby dj52m21_27) rfl) ?_
  refine OGets.step (fun _ => XS.iload X0.here hx rfl (hb hby dj52m21_28) rfl) ?_
  refine OGets.step (fun _ => XS.i2b X0.here hx rfl (hb hby dj52m21_30) rfl) ?_
  obtain ⟨cl128, Ar128, S128⟩ := V0.arr 1 rfl
  obtain ⟨T128, h128, X128, e128, W128', st128⟩ := stB X0 hx hZ e0 Ar128 (j := (0 : Int32)) (own_inb S128 0 (by decide) (Nat.le_of_ble_eq_true rfl)) (g := (mkF m 31 #[.val (.ref a), .val (.int (0 : Int32)), .val (.ref b), .val (.int (0 : Int32)), .val (.int (2 : Int32)), .val (.int (0 : Int32)), .val (.int c0)] [(.int (c0.toInt8.toInt32)), (.int (0 : Int32)), (.ref b)])) rfl rfl (hb hby dj52m21_31)
  have W128 := own_wr (vs := []) 0 (by decide) W128'
  have V128 : OView Z n0 h128 (((a, Sum.inr (.char, [(.int c0), (.int c1)])) : Addr × OObj) :: ((b, Sum.inr (.byte, [(.int (yb c0)), (.int (0 : Int32))])) : Addr × OObj) :: F) := V0.putA 1 rfl W128
  have N128 := Fr.snoc X128 N0 (V0.old 1 rfl)
  have Z128 : n0 ≤ h128.size := by rw [W128.size]; exact Z0
  have O128 := O0.wr W128 (V0.old 1 rfl)
  refine OGets.step st128 ?_
  refine OGets.step (fun _ => XS.iinc X128.here hx rfl (hb hby dj52m21_32) rfl (l' := #[.val (.ref a), .val (.int (1 : Int32)), .val (.ref b), .val (.int (0 : Int32)), .val (.int (2 : Int32)), .val (.int (0 : Int32)), .val (.int c0)]) rfl) ?_
  refine OGets.step (fun _ => XS.iinc X128.here hx rfl (hb hby dj52m21_35) rfl (l' := #[.val (.ref a), .val (.int (1 : Int32)), .val (.ref b), .val (.int (1 : Int32)), .val (.int (2 : Int32)), .val (.int (0 : Int32)), .val (.int c0)]) rfl) ?_
  refine OGets.step (fun _ => XS.iinc X128.here hx rfl (hb hby dj52m21_38) rfl (l' := #[.val (.ref a), .val (.int (1 : Int32)), .val (.ref b), .val (.int (1 : Int32)), .val (.int (2 : Int32)), .val (.int (1 : Int32)), .val (.int c0)]) rfl) ?_
  refine OGets.step (fun _ => XS.goto X128.here hx rfl (pc0 := 41) (pc' := 3) rfl (hb hby dj52m21_41) (by decide) (by decide)) ?_
  refine OGets.step (fun _ => XS.iload X128.here hx rfl (hb hby dj52m21_3) rfl) ?_
  show OGets p e below _ (T128.setTop (mkF m 5 #[.val (.ref a), .val (.int (1 : Int32)), .val (.ref b), .val (.int (1 : Int32)), .val (.int (2 : Int32)), .val (.int (1 : Int32)), .val (.int c0)] [(.int (1 : Int32))]))
  refine OGets.step (fun _ => XS.iload X128.here hx rfl (hb hby dj52m21_5) rfl) ?_
  refine OGets.step (fun _ => XS.icmpNo X128.here hx rfl (hb hby dj52m21_7) rfl (tlt (by decide : (1 : Int32) < (2 : Int32))).2.1) ?_
  refine OGets.step (fun _ => XS.aloadN X128.here hx rfl (hb hby dj52m21_10) rfl rfl) ?_
  refine OGets.step (fun _ => XS.iloadN X128.here hx rfl (hb hby dj52m21_11) rfl) ?_
  obtain ⟨cl130, Ar130, S130⟩ := V128.arr 0 rfl
  refine OGets.step (fun _ => X128.caload hx (j := (1 : Int32)) (v := (.int c1)) (by rw [e128]; exact Ar130.1) (State.isArrayOf_alike hZ.alike Ar130.2.1) Ar130.2.2 (own_inb S130 1 (by decide) (Nat.le_of_ble_eq_true rfl)) (own_get S130 1 (by decide) rfl) (g := (mkF m 12 #[.val (.ref a), .val (.int (1 : Int32)), .val (.ref b), .val (.int (1 : Int32)), .val (.int (2 : Int32)), .val (.int (1 : Int32)), .val (.int c0)] [(.int (1 : Int32)), (.ref a)])) rfl rfl (hb hby dj52m21_12) _) ?_
  refine OGets.step (fun _ => XS.istore X128.here hx rfl (hb hby dj52m21_13) rfl (l' := #[.val (.ref a), .val (.int (1 : Int32)), .val (.ref b), .val (.int (1 : Int32)), .val (.int (2 : Int32)), .val (.int (1 : Int32)), .val (.int c1)]) rfl) ?_
  show OGets p e below _ (T128.setTop (mkF m 15 #[.val (.ref a), .val (.int (1 : Int32)), .val (.ref b), .val (.int (1 : Int32)), .val (.int (2 : Int32)), .val (.int (1 : Int32)), .val (.int c1)] []))
  refine OGets.step (fun _ => XS.iload X128.here hx rfl (hb hby dj52m21_15) rfl) ?_
  refine OGets.step (fun _ => XS.sipush X128.here hx rfl (hb hby dj52m21_17)) ?_
  refine OGets.step (fun _ => XS.icmpNo X128.here hx rfl (hb hby dj52m21_20) rfl (tlt (u1 : (255 : Int32) < c1)).2.2.2) ?_
  refine OGets.step (fun _ => XS.iload X128.here hx rfl (hb hby dj52m21_23) rfl) ?_
  refine OGets.retI X128 hx hlk Bd.returns (hb hby dj52m21_25) (Nat.le_of_ble_eq_true rfl) (Nat.le_of_ble_eq_true rfl) ?_
  rw [e128]
  exact ⟨rfl, N128, V128, O128⟩
theorem ef_c3_21 (m : MethodId) (x0 : Addr) (x1 : Int32) (x2 : Int32) : entryFrame m #[(.ref x0), (.int x1), (.int x2)] 6 = mkF m 0 #[.val (.ref x0), .val (.int x1), .val (.int x2), .unset, .unset, .unset] [] := by first | (simp [entryFrame, mkF, argsToLocals, Value.category]; done) | rfl
def Q_c3_21 (Z : State) (a : Addr) (c0 : Int32) (c1 : Int32) (h0 : Heap) (n0 : Nat) (F : List (Addr × OObj)) (v : Option Value) (h : Heap) (L : List Loc) : Prop := ∃ b : Addr, v = some (.ref b) ∧ Fr n0 L ∧ OView Z n0 h (((b, Sum.inr (.byte, [(.int (hb' c0)), (.int (lb' c0)), (.int (hb' c1)), (.int (lb' c1))])) : Addr × OObj) :: ((a, Sum.inr (.char, [(.int c0), (.int c1)])) : Addr × OObj) :: F) ∧ Old Z n0 h
set_option maxRecDepth 65536 in
set_option maxHeartbeats 40000000 in
theorem rm_c3_21 (l : Launch) (Z : State) (a0 : Array Value) (hw : ∀ d ∈ tables_1, d.before a0 Z = true) (ws : List Jvm.Cond) (a : Addr) (c0 : Int32) (c1 : Int32) (h0 : Heap) (n0 : Nat) (F : List (Addr × OObj)) (Z0 : n0 ≤ h0.size) (SA : Sta Z Z.heap "java/lang/StringUTF16" "$assertionsDisabled" "Z" (.int (1 : Int32))) (SH : Sta Z Z.heap "java/lang/StringUTF16" "HI_BYTE_SHIFT" "I" (.int (0 : Int32))) (SL : Sta Z Z.heap "java/lang/StringUTF16" "LO_BYTE_SHIFT" "I" (.int (8 : Int32))) (u0 : ¬ (255 : Int32) < c0) (u1 : (255 : Int32) < c1) (w1 : Ch c1) (V0 : OView Z n0 h0 (((a, Sum.inr (.char, [(.int c0), (.int c1)])) : Addr × OObj) :: F)) (O0 : Old Z n0 h0) :
    MetFree l (⟨"java/lang/StringUTF16", "compress", "([CII)[B"⟩ : MethodName) (head1 (Jvm.Cond.code (⟨"java/lang/StringUTF16", "compress", "([CII)[B"⟩ : MethodName) jdk_52_method_16_code 6 (some (.array .byte)) :: ws) ({ frames := 3, cells := 2, slots := 6, locals := 40 } : Room)) (fun a_ U => a_ = #[(.ref a), (.int (0 : Int32)), (.int (2 : Int32))] ∧ Z.Warmed39 U.vm ∧ U.heap = h0) (fun _ _ _ _ _ => True) (fun _ U o U' => ∃ v L, o = .returned v ∧ Q_c3_21 Z a c0 c1 h0 n0 F v U'.heap L ∧ FrameEnd U o U' L ({ frames := 3, cells := 2, slots := 6, locals := 40 } : Room).cells ({ frames := 3, cells := 2, slots := 6, locals := 40 } : Room).slots) := by
  refine MetFree.of_bodySF (plainFor_of_name pn_1) hisR ?_
  intro p e s m args below meth c s₁ Bd hml0 hP hK
  obtain ⟨rfl, hZ, hh⟩ := hP
  have hx := Bd.exec
  have hby := Bd.bytes
  have hlk : meth.locks = false := Bd.notSynchronized
  have hml : c.maxLocals = 6 := hml0
  have hown : s.vm.findClass "java/lang/StringUTF16" = some m.cls := findClass_of_methodNamed Bd.named
  have hnm := (name_of_methodNamed Bd.named Bd.method).1
  have X0 : Stand p l e ({ frames := 3, cells := 2, slots := 6, locals := 40 } : Room) s m #[(.ref a), (.int (0 : Int32)), (.int (2 : Int32))] below meth c s₁ [] 0 0 := Stand.of_body Bd
  have e0 : s₁.heap = h0 := by rw [← hh, Bd.state]; rfl
  have N0 := Fr.nil n0
  show OGets p e below (OLeaves s (Q_c3_21 Z a c0 c1 h0 n0 F ) ({ frames := 3, cells := 2, slots := 6, locals := 40 } : Room).cells ({ frames := 3, cells := 2, slots := 6, locals := 40 } : Room).slots) _
  refine OGets.enter (ef_c3_21 m a (0 : Int32) (2 : Int32)) ?_
  show OGets p e below _ (s₁.setTop (mkF m 0 #[.val (.ref a), .val (.int (0 : Int32)), .val (.int (2 : Int32)), .unset, .unset, .unset] []))
  refine OGets.step (fun _ => XS.iloadN X0.here hx rfl (hb hby dj52m16_0) rfl) ?_
  obtain ⟨T132, h132, k132, X132, e132, E132, A132, st132⟩ := newP X0 hx hZ (hw _ (List.mem_of_getElem? (i := 21) rfl)) e0 (g := (mkF m 1 #[.val (.ref a), .val (.int (0 : Int32)), .val (.int (2 : Int32)), .unset, .unset, .unset] [(.int (2 : Int32))])) rfl (hb hby dj52m16_1) rfl (by decide) (cap := 2) (by decide) (by decide) (by decide) (by decide)
  have V132' := V0.newArr Z0 E132 A132 2 rfl
  have Z132 : n0 ≤ h132.size := Nat.le_trans Z0 E132.1
  obtain ⟨b132, g132⟩ : ∃ z, z = h0.size := ⟨_, rfl⟩
  rw [← g132] at V132' st132
  have V132 : OView Z n0 h132 (((b132, Sum.inr (.byte, [(.int (0 : Int32)), (.int (0 : Int32))])) : Addr × OObj) :: ((a, Sum.inr (.char, [(.int c0), (.int c1)])) : Addr × OObj) :: F) := V132'
  have O132 := O0.ext E132
  refine OGets.step st132 ?_
  refine OGets.step (fun _ => XS.astoreN X132.here hx rfl (hb hby dj52m16_3) rfl rfl (l' := #[.val (.ref a), .val (.int (0 : Int32)), .val (.int (2 : Int32)), .val (.ref b132), .unset, .unset]) rfl) ?_
  refine OGets.step (fun _ => XS.aloadN X132.here hx rfl (hb hby dj52m16_4) rfl rfl) ?_
  refine OGets.step (fun _ => XS.iloadN X132.here hx rfl (hb hby dj52m16_5) rfl) ?_
  refine OGets.step (fun _ => XS.aloadN X132.here hx rfl (hb hby dj52m16_6) rfl rfl) ?_
  refine OGets.step (fun _ => XS.iconst X132.here hx rfl (hb hby dj52m16_7)) ?_
  show OGets p e below _ (T132.setTop (mkF m 8 #[.val (.ref a), .val (.int (0 : Int32)), .val (.int (2 : Int32)), .val (.ref b132), .unset, .unset] [(.int (0 : Int32)), (.ref b132), (.int (0 : Int32)), (.ref a)]))
  refine OGets.step (fun _ => XS.iloadN X132.here hx rfl (hb hby dj52m16_8) rfl) ?_
  have V133_ : OView Z _ h132 (((a, Sum.inr (.char, [(.int c0), (.int c1)])) : Addr × OObj) :: ((b132, Sum.inr (.byte, [(.int (0 : Int32)), (.int (0 : Int32))])) : Addr × OObj) :: F) := (V132.bring 1 rfl)
  obtain ⟨_, _, ⟨T133, L133, k133, n133⟩, -, X133, ⟨Lc133, hQ133, l133, y133, z133⟩, st133⟩ := Jvm.LawKit.callS X132 hx (y := (⟨"java/lang/StringUTF16", "compress", "([CI[BII)I"⟩ : MethodName)) hown (mvT hZ (hw _ (List.mem_of_getElem? (i := 49) rfl))) (mvT hZ (hw _ (List.mem_of_getElem? (i := 50) rfl))) (mvT hZ (hw _ (List.mem_of_getElem? (i := 47) rfl))) (mvT hZ (hw _ (List.mem_of_getElem? (i := 51) rfl))) (by decide) (backOf (W := 0) (rm_c5_21 l Z a0 hw [] a b132 c0 c1 h132 n0 _ Z132 u0 u1 V133_ O132) hZ (hw _ (List.mem_of_getElem? (i := 51) rfl)) (hw _ (List.mem_of_getElem? (i := 47) rfl)) (by decide) (by decide)) (g := (mkF m 9 #[.val (.ref a), .val (.int (0 : Int32)), .val (.int (2 : Int32)), .val (.ref b132), .unset, .unset] [(.int (2 : Int32)), (.int (0 : Int32)), (.ref b132), (.int (0 : Int32)), (.ref a)])) rfl (by rw [hml]; rfl) (argsL := [(.ref a), (.int (0 : Int32)), (.ref b132), (.int (0 : Int32)), (.int (2 : Int32))]) (rest := []) (lenOf pd_5 rfl) rfl (by show 2 * 0 + _ ≤ _; exact Nat.le_of_eq rfl) (hb hby dj52m16_9) (fun _ _ => ⟨rfl, e132, Nat.le_of_ble_eq_true rfl, Nat.le_of_ble_eq_true rfl⟩)
  dsimp only [Pt.U, Pt.locs, Pt.cells, Pt.slots] at X133 l133 y133 z133 st133 hQ133
  rw [l133, y133, z133] at X133
  obtain ⟨rfl, N133q, V133, O133q⟩ := hQ133
  have N133 := Fr.app N0 N133q
  have V133v : OView Z n0 T133.heap (((a, Sum.inr (.char, [(.int c0), (.int c1)])) : Addr × OObj) :: ((b132, Sum.inr (.byte, [(.int (yb c0)), (.int (0 : Int32))])) : Addr × OObj) :: F) := V133
  have Z133 : n0 ≤ T133.heap.size := V133v.big 0 rfl
  refine OGets.step st133 ?_
  refine OGets.step (fun _ => XS.istore X133.here hx rfl (hb hby dj52m16_12) rfl (l' := #[.val (.ref a), .val (.int (0 : Int32)), .val (.int (2 : Int32)), .val (.ref b132), .val (.int (1 : Int32)), .unset]) rfl) ?_
  refine OGets.step (fun _ => XS.iload X133.here hx rfl (hb hby dj52m16_14) rfl) ?_
  refine OGets.step (fun _ => XS.iloadN X133.here hx rfl (hb hby dj52m16_16) rfl) ?_
  refine OGets.step (fun _ => XS.icmpNo X133.here hx rfl (hb hby dj52m16_17) rfl (feq (by decide : ¬ ((1 : Int32) = (2 : Int32)))).1) ?_
  refine OGets.step (fun _ => XS.aloadN X133.here hx rfl (hb hby dj52m16_20) rfl rfl) ?_
  show OGets p e below _ (T133.setTop (mkF m 21 #[.val (.ref a), .val (.int (0 : Int32)), .val (.int (2 : Int32)), .val (.ref b132), .val (.int (1 : Int32)), .unset] [(.ref a)]))
  refine OGets.step (fun _ => XS.iloadN X133.here hx rfl (hb hby dj52m16_21) rfl) ?_
  refine OGets.step (fun _ => XS.iloadN X133.here hx rfl (hb hby dj52m16_22) rfl) ?_
  obtain ⟨_, _, ⟨T135, L135, k135, n135⟩, -, X135, ⟨Lc135, hQ135, l135, y135, z135⟩, st135⟩ := Jvm.LawKit.callS X133 hx (y := (⟨"java/lang/StringUTF16", "toBytes", "([CII)[B"⟩ : MethodName)) hown (mvT hZ (hw _ (List.mem_of_getElem? (i := 55) rfl))) (mvT hZ (hw _ (List.mem_of_getElem? (i := 56) rfl))) (mvT hZ (hw _ (List.mem_of_getElem? (i := 47) rfl))) (mvT hZ (hw _ (List.mem_of_getElem? (i := 57) rfl))) (by decide) (backOf (W := 0) (rm_tob2 l Z a0 hw [] a c0 c1 T133.heap n0 _ Z133 SA SH SL V133v O133q) hZ (hw _ (List.mem_of_getElem? (i := 57) rfl)) (hw _ (List.mem_of_getElem? (i := 47) rfl)) (by decide) (by decide)) (g := (mkF m 23 #[.val (.ref a), .val (.int (0 : Int32)), .val (.int (2 : Int32)), .val (.ref b132), .val (.int (1 : Int32)), .unset] [(.int (2 : Int32)), (.int (0 : Int32)), (.ref a)])) rfl (by rw [hml]; rfl) (argsL := [(.ref a), (.int (0 : Int32)), (.int (2 : Int32))]) (rest := []) (lenOf pd_6 rfl) rfl (by show 2 * 0 + _ ≤ _; exact Nat.le_of_eq rfl) (hb hby dj52m16_23) (fun _ _ => ⟨rfl, rfl, Nat.le_of_ble_eq_true rfl, Nat.le_of_ble_eq_true rfl⟩)
  dsimp only [Pt.U, Pt.locs, Pt.cells, Pt.slots] at X135 l135 y135 z135 st135 hQ135
  rw [l135, y135, z135] at X135
  obtain ⟨b135, rfl, N135q, V135, O135q⟩ := hQ135
  have N135 := Fr.app N133 N135q
  have V135v : OView Z n0 T135.heap (((b135, Sum.inr (.byte, [(.int (hb' c0)), (.int (lb' c0)), (.int (hb' c1)), (.int (lb' c1))])) : Addr × OObj) :: ((a, Sum.inr (.char, [(.int c0), (.int c1)])) : Addr × OObj) :: ((b132, Sum.inr (.byte, [(.int (yb c0)), (.int (0 : Int32))])) : Addr × OObj) :: F) := V135
  have Z135 : n0 ≤ T135.heap.size := V135v.big 0 rfl
  refine OGets.step st135 ?_
  refine OGets.step (fun _ => XS.astore X135.here hx rfl (hb hby dj52m16_26) rfl rfl (l' := #[.val (.ref a), .val (.int (0 : Int32)), .val (.int (2 : Int32)), .val (.ref b132), .val (.int (1 : Int32)), .val (.ref b135)]) rfl) ?_
  refine OGets.step (fun _ => XS.aload X135.here hx rfl (hb hby dj52m16_28) rfl rfl) ?_
  refine OGets.step (fun _ => XS.iload X135.here hx rfl (hb hby dj52m16_30) rfl) ?_
  obtain ⟨_, _, ⟨T136, L136, k136, n136⟩, -, X136, ⟨Lc136, hQ136, l136, y136, z136⟩, st136⟩ := Jvm.LawKit.callS X135 hx (y := (⟨"java/lang/StringUTF16", "getChar", "([BI)C"⟩ : MethodName)) hown (mvT hZ (hw _ (List.mem_of_getElem? (i := 71) rfl))) (mvT hZ (hw _ (List.mem_of_getElem? (i := 72) rfl))) (mvT hZ (hw _ (List.mem_of_getElem? (i := 47) rfl))) (mvT hZ (hw _ (List.mem_of_getElem? (i := 73) rfl))) (by decide) (backOf (W := 0) (rm_gch21 l Z a0 hw [] b135 (hb' c0) (lb' c0) (hb' c1) (lb' c1) T135.heap n0 _ Z135 SA SH SL V135v O135q) hZ (hw _ (List.mem_of_getElem? (i := 73) rfl)) (hw _ (List.mem_of_getElem? (i := 47) rfl)) (by decide) (by decide)) (g := (mkF m 32 #[.val (.ref a), .val (.int (0 : Int32)), .val (.int (2 : Int32)), .val (.ref b132), .val (.int (1 : Int32)), .val (.ref b135)] [(.int (1 : Int32)), (.ref b135)])) rfl (by rw [hml]; rfl) (argsL := [(.ref b135), (.int (1 : Int32))]) (rest := []) (lenOf pd_7 rfl) rfl (by show 2 * 0 + _ ≤ _; exact Nat.le_of_eq rfl) (hb hby dj52m16_32) (fun _ _ => ⟨rfl, rfl, Nat.le_of_ble_eq_true rfl, Nat.le_of_ble_eq_true rfl⟩)
  dsimp only [Pt.U, Pt.locs, Pt.cells, Pt.slots] at X136 l136 y136 z136 st136 hQ136
  rw [l136, y136, z136] at X136
  obtain ⟨rfl, rfl, e136⟩ := hQ136
  have N136 := Fr.app N135 (Fr.nil n0)
  refine OGets.step st136 ?_
  refine OGets.step (fun _ => XS.sipush X136.here hx rfl (hb hby dj52m16_35)) ?_
  refine OGets.step (fun _ => XS.icmpYes X136.here hx rfl (pc0 := 38) (pc' := 54) rfl (hb hby dj52m16_38) rfl (tlt (own_gc w1 u1 : (255 : Int32) < (gcv (hb' c1) (lb' c1)))).2.2.1 (by decide) (by decide)) ?_
  refine OGets.step (fun _ => XS.aload X136.here hx rfl (hb hby dj52m16_54) rfl rfl) ?_
  refine OGets.retA X136 hx hlk (t := (.array .byte)) Bd.returns rfl rfl rfl (hb hby dj52m16_56) (Nat.le_of_ble_eq_true rfl) (Nat.le_of_ble_eq_true rfl) ?_
  have Vd138 : OView Z _ T135.heap (((b135, Sum.inr (.byte, [(.int (hb' c0)), (.int (lb' c0)), (.int (hb' c1)), (.int (lb' c1))])) : Addr × OObj) :: ((a, Sum.inr (.char, [(.int c0), (.int c1)])) : Addr × OObj) :: F) := (V135v.bring 2 rfl).tail
  rw [e136]
  exact ⟨b135, rfl, N136, Vd138, O135q⟩
theorem ef_i4_21 (m : MethodId) (x0 : Addr) (x1 : Addr) (x2 : Int32) (x3 : Int32) : entryFrame m #[(.ref x0), (.ref x1), (.int x2), (.int x3), .null] 6 = mkF m 0 #[.val (.ref x0), .val (.ref x1), .val (.int x2), .val (.int x3), .val .null, .unset] [] := by first | (simp [entryFrame, mkF, argsToLocals, Value.category]; done) | rfl
def Q_i4_21 (Z : State) (a : Addr) (q : Addr) (G : Int32) (c0 : Int32) (c1 : Int32) (h0 : Heap) (n0 : Nat) (F : List (Addr × OObj)) (v : Option Value) (h : Heap) (L : List Loc) : Prop := v = none ∧ Fr n0 L ∧ ∃ b : Addr, OView Z n0 h (((a, Sum.inl ("java/lang/String", ns_String, [(.ref b), (.int (1 : Int32))])) : Addr × OObj) :: ((b, Sum.inr (.byte, [(.int (hb' c0)), (.int (lb' c0)), (.int (hb' c1)), (.int (lb' c1))])) : Addr × OObj) :: ((q, Sum.inr (.char, [(.int c0), (.int c1)])) : Addr × OObj) :: F) ∧ Old Z n0 h
set_option maxRecDepth 65536 in
set_option maxHeartbeats 40000000 in
theorem rm_i4_21 (l : Launch) (Z : State) (a0 : Array Value) (hw : ∀ d ∈ tables_1, d.before a0 Z = true) (ws : List Jvm.Cond) (a : Addr) (q : Addr) (G : Int32) (c0 : Int32) (c1 : Int32) (h0 : Heap) (n0 : Nat) (F : List (Addr × OObj)) (Z0 : n0 ≤ h0.size) (S0 : Sta Z Z.heap "java/lang/String" "COMPACT_STRINGS" "Z" (.int G)) (hG : ¬ G = (0 : Int32)) (SA : Sta Z Z.heap "java/lang/StringUTF16" "$assertionsDisabled" "Z" (.int (1 : Int32))) (SH : Sta Z Z.heap "java/lang/StringUTF16" "HI_BYTE_SHIFT" "I" (.int (0 : Int32))) (SL : Sta Z Z.heap "java/lang/StringUTF16" "LO_BYTE_SHIFT" "I" (.int (8 : Int32))) (u0 : ¬ (255 : Int32) < c0) (u1 : (255 : Int32) < c1) (w1 : Ch c1) (V0 : OView Z n0 h0 (((a, Sum.inl ("java/lang/String", ns_String, [.null, (.int (0 : Int32))])) : Addr × OObj) :: ((q, Sum.inr (.char, [(.int c0), (.int c1)])) : Addr × OObj) :: F)) (O0 : Old Z n0 h0) :
    MetFree l (⟨"java/lang/String", "<init>", "([CIILjava/lang/Void;)V"⟩ : MethodName) (head1 (Jvm.Cond.code (⟨"java/lang/String", "<init>", "([CIILjava/lang/Void;)V"⟩ : MethodName) jdk_42_method_149_code 6 none :: ws) ({ frames := 4, cells := 2, slots := 6, locals := 57 } : Room)) (fun a_ U => a_ = #[(.ref a), (.ref q), (.int (0 : Int32)), (.int (2 : Int32)), .null] ∧ Z.Warmed39 U.vm ∧ U.heap = h0) (fun _ _ _ _ _ => True) (fun _ U o U' => ∃ v L, o = .returned v ∧ Q_i4_21 Z a q G c0 c1 h0 n0 F v U'.heap L ∧ FrameEnd U o U' L ({ frames := 4, cells := 2, slots := 6, locals := 57 } : Room).cells ({ frames := 4, cells := 2, slots := 6, locals := 57 } : Room).slots) := by
  refine MetFree.of_bodySF (plainFor_of_name pn_8) hisR ?_
  intro p e s m args below meth c s₁ Bd hml0 hP hK
  obtain ⟨rfl, hZ, hh⟩ := hP
  have hx := Bd.exec
  have hby := Bd.bytes
  have hlk : meth.locks = false := Bd.notSynchronized
  have hml : c.maxLocals = 6 := hml0
  have hown : s.vm.findClass "java/lang/String" = some m.cls := findClass_of_methodNamed Bd.named
  have hnm := (name_of_methodNamed Bd.named Bd.method).1
  have X0 : Stand p l e ({ frames := 4, cells := 2, slots := 6, locals := 57 } : Room) s m #[(.ref a), (.ref q), (.int (0 : Int32)), (.int (2 : Int32)), .null] below meth c s₁ [] 0 0 := Stand.of_body Bd
  have e0 : s₁.heap = h0 := by rw [← hh, Bd.state]; rfl
  have N0 := Fr.nil n0
  show OGets p e below (OLeaves s (Q_i4_21 Z a q G c0 c1 h0 n0 F ) ({ frames := 4, cells := 2, slots := 6, locals := 57 } : Room).cells ({ frames := 4, cells := 2, slots := 6, locals := 57 } : Room).slots) _
  refine OGets.enter (ef_i4_21 m a q (0 : Int32) (2 : Int32)) ?_
  show OGets p e below _ (s₁.setTop (mkF m 0 #[.val (.ref a), .val (.ref q), .val (.int (0 : Int32)), .val (.int (2 : Int32)), .val .null, .unset] []))
  refine OGets.step (fun _ => XS.aloadN X0.here hx rfl (hb hby dj42m149_0) rfl rfl) ?_
  obtain ⟨T139, X139, e139, st139⟩ := initO X0 hx hZ hown (hw _ (List.mem_of_getElem? (i := 17) rfl)) (hw _ (List.mem_of_getElem? (i := 18) rfl)) (hw _ (List.mem_of_getElem? (i := 19) rfl)) e0 (g := (mkF m 1 #[.val (.ref a), .val (.ref q), .val (.int (0 : Int32)), .val (.int (2 : Int32)), .val .null, .unset] [(.ref a)])) rfl (by rw [hml]; rfl) rfl (hb hby dj42m149_1) (by decide) (W := 0) (by show 2 * 0 + _ ≤ _; exact Nat.le_of_eq rfl) (by decide)
  refine OGets.step st139 ?_
  refine OGets.step (fun _ => XS.iloadN X139.here hx rfl (hb hby dj42m149_4) rfl) ?_
  refine OGets.step (fun _ => XS.ifYes X139.here hx rfl (pc0 := 5) (pc' := 27) rfl (hb hby dj42m149_5) rfl ((if0 _ _).trans (feq (by decide : ¬ ((2 : Int32) = (0 : Int32)))).2) (by decide) (by decide)) ?_
  obtain ⟨T141, X141, e141, st141⟩ := getS2 X139 hx hZ hown (host := "") (Or.inl (hw _ (List.mem_of_getElem? (i := 39) rfl))) Via.refl e139 (S0.ext O0.2) (g := (mkF m 27 #[.val (.ref a), .val (.ref q), .val (.int (0 : Int32)), .val (.int (2 : Int32)), .val .null, .unset] [])) rfl (hb hby dj42m149_27)
  refine OGets.step st141 ?_
  refine OGets.step (fun _ => XS.ifNo X141.here hx rfl (hb hby dj42m149_30) rfl ((if0 _ _).trans (feq (hG : ¬ (G = (0 : Int32)))).1)) ?_
  refine OGets.step (fun _ => XS.aloadN X141.here hx rfl (hb hby dj42m149_33) rfl rfl) ?_
  refine OGets.step (fun _ => XS.iloadN X141.here hx rfl (hb hby dj42m149_34) rfl) ?_
  refine OGets.step (fun _ => XS.iloadN X141.here hx rfl (hb hby dj42m149_35) rfl) ?_
  have V143_ : OView Z _ h0 (((q, Sum.inr (.char, [(.int c0), (.int c1)])) : Addr × OObj) :: ((a, Sum.inl ("java/lang/String", ns_String, [.null, (.int (0 : Int32))])) : Addr × OObj) :: F) := (V0.bring 1 rfl)
  obtain ⟨_, _, ⟨T143, L143, k143, n143⟩, -, X143, ⟨Lc143, hQ143, l143, y143, z143⟩, st143⟩ := Jvm.LawKit.callS X141 hx (y := (⟨"java/lang/StringUTF16", "compress", "([CII)[B"⟩ : MethodName)) hown (mvT hZ (hw _ (List.mem_of_getElem? (i := 45) rfl))) (mvT hZ (hw _ (List.mem_of_getElem? (i := 46) rfl))) (mvT hZ (hw _ (List.mem_of_getElem? (i := 47) rfl))) (mvT hZ (hw _ (List.mem_of_getElem? (i := 48) rfl))) (by decide) (backOf (W := 0) (rm_c3_21 l Z a0 hw [] q c0 c1 h0 n0 _ Z0 SA SH SL u0 u1 w1 V143_ O0) hZ (hw _ (List.mem_of_getElem? (i := 48) rfl)) (hw _ (List.mem_of_getElem? (i := 47) rfl)) (by decide) (by decide)) (g := (mkF m 36 #[.val (.ref a), .val (.ref q), .val (.int (0 : Int32)), .val (.int (2 : Int32)), .val .null, .unset] [(.int (2 : Int32)), (.int (0 : Int32)), (.ref q)])) rfl (by rw [hml]; rfl) (argsL := [(.ref q), (.int (0 : Int32)), (.int (2 : Int32))]) (rest := []) (lenOf pd_6 rfl) rfl (by show 2 * 0 + _ ≤ _; exact Nat.le_of_eq rfl) (hb hby dj42m149_36) (fun _ _ => ⟨rfl, e141, Nat.le_of_ble_eq_true rfl, Nat.le_of_ble_eq_true rfl⟩)
  dsimp only [Pt.U, Pt.locs, Pt.cells, Pt.slots] at X143 l143 y143 z143 st143 hQ143
  rw [l143, y143, z143] at X143
  obtain ⟨b143, rfl, N143q, V143, O143q⟩ := hQ143
  have N143 := Fr.app N0 N143q
  have V143v : OView Z n0 T143.heap (((b143, Sum.inr (.byte, [(.int (hb' c0)), (.int (lb' c0)), (.int (hb' c1)), (.int (lb' c1))])) : Addr × OObj) :: ((q, Sum.inr (.char, [(.int c0), (.int c1)])) : Addr × OObj) :: ((a, Sum.inl ("java/lang/String", ns_String, [.null, (.int (0 : Int32))])) : Addr × OObj) :: F) := V143
  have Z143 : n0 ≤ T143.heap.size := V143v.big 0 rfl
  refine OGets.step st143 ?_
  refine OGets.step (fun _ => XS.astore X143.here hx rfl (hb hby dj42m149_39) rfl rfl (l' := #[.val (.ref a), .val (.ref q), .val (.int (0 : Int32)), .val (.int (2 : Int32)), .val .null, .val (.ref b143)]) rfl) ?_
  refine OGets.step (fun _ => XS.aloadN X143.here hx rfl (hb hby dj42m149_41) rfl rfl) ?_
  refine OGets.step (fun _ => XS.aload X143.here hx rfl (hb hby dj42m149_42) rfl rfl) ?_
  refine OGets.step (fun _ => XS.iloadN X143.here hx rfl (hb hby dj42m149_44) rfl) ?_
  obtain ⟨_, _, ⟨T144, L144, k144, n144⟩, -, X144, ⟨Lc144, hQ144, l144, y144, z144⟩, st144⟩ := Jvm.LawKit.callS X143 hx (y := (⟨"java/lang/StringUTF16", "coderFromArrayLen", "([BI)B"⟩ : MethodName)) hown (mvT hZ (hw _ (List.mem_of_getElem? (i := 52) rfl))) (mvT hZ (hw _ (List.mem_of_getElem? (i := 53) rfl))) (mvT hZ (hw _ (List.mem_of_getElem? (i := 47) rfl))) (mvT hZ (hw _ (List.mem_of_getElem? (i := 54) rfl))) (by decide) (backOf (W := 1) (rm_cfl21 l Z a0 hw [] b143 (hb' c0) (lb' c0) (hb' c1) (lb' c1) T143.heap n0 _ Z143  V143v) hZ (hw _ (List.mem_of_getElem? (i := 54) rfl)) (hw _ (List.mem_of_getElem? (i := 47) rfl)) (by decide) (by decide)) (g := (mkF m 45 #[.val (.ref a), .val (.ref q), .val (.int (0 : Int32)), .val (.int (2 : Int32)), .val .null, .val (.ref b143)] [(.int (2 : Int32)), (.ref b143), (.ref a)])) rfl (by rw [hml]; rfl) (argsL := [(.ref b143), (.int (2 : Int32))]) (rest := [(.ref a)]) (lenOf pd_9 rfl) rfl (by show 2 * 0 + _ ≤ _; exact Nat.le_of_eq rfl) (hb hby dj42m149_45) (fun _ _ => ⟨rfl, rfl, Nat.le_of_ble_eq_true rfl, Nat.le_of_ble_eq_true rfl⟩)
  dsimp only [Pt.U, Pt.locs, Pt.cells, Pt.slots] at X144 l144 y144 z144 st144 hQ144
  rw [l144, y144, z144] at X144
  obtain ⟨rfl, rfl, e144⟩ := hQ144
  have N144 := Fr.app N143 (Fr.nil n0)
  refine OGets.step st144 ?_
  obtain ⟨T145, h145, X145, e145, W145, st145⟩ := putFN X144 hx hZ hown (hw _ (List.mem_of_getElem? (i := 27) rfl)) Via.refl e144 (V143v.fld 2 rfl 1 rfl rfl) (V143v.exa 2 rfl) (Or.inr ⟨(hw _ (List.mem_of_getElem? (i := 23) rfl)), rfl, hnm⟩) (hw _ (List.mem_of_getElem? (i := 7) rfl)) (ty := .byte) (v' := (.int (1 : Int32))) (by decide) rfl (by decide) (g := (mkF m 48 #[.val (.ref a), .val (.ref q), .val (.int (0 : Int32)), .val (.int (2 : Int32)), .val .null, .val (.ref b143)] [(.int (1 : Int32)), (.ref a)])) rfl rfl (hb hby dj42m149_48)
  have V145 : OView Z n0 h145 (((b143, Sum.inr (.byte, [(.int (hb' c0)), (.int (lb' c0)), (.int (hb' c1)), (.int (lb' c1))])) : Addr × OObj) :: ((q, Sum.inr (.char, [(.int c0), (.int c1)])) : Addr × OObj) :: ((a, Sum.inl ("java/lang/String", ns_String, [.null, (.int (1 : Int32))])) : Addr × OObj) :: F) := V143v.putF 2 rfl 1 rfl W145
  have N145 := Fr.snoc X145 N144 (V143v.old 2 rfl)
  have Z145 : n0 ≤ h145.size := by rw [W145.size]; exact Z143
  have O145 := O143q.wr W145 (V143v.old 2 rfl)
  refine OGets.step st145 ?_
  refine OGets.step (fun _ => XS.aloadN X145.here hx rfl (hb hby dj42m149_51) rfl rfl) ?_
  refine OGets.step (fun _ => XS.aload X145.here hx rfl (hb hby dj42m149_52) rfl rfl) ?_
  obtain ⟨T146, h146, X146, e146, W146, st146⟩ := putF X145 hx hZ hown (host := "") (Or.inl (hw _ (List.mem_of_getElem? (i := 26) rfl))) Via.refl e145 (V145.fld 2 rfl 0 rfl rfl) (V145.exa 2 rfl) (Or.inr ⟨(hw _ (List.mem_of_getElem? (i := 22) rfl)), rfl, hnm⟩) (hw _ (List.mem_of_getElem? (i := 7) rfl)) (ty := (.array .byte)) (by decide) rfl rfl (g := (mkF m 54 #[.val (.ref a), .val (.ref q), .val (.int (0 : Int32)), .val (.int (2 : Int32)), .val .null, .val (.ref b143)] [(.ref b143), (.ref a)])) rfl rfl (hb hby dj42m149_54)
  have V146 : OView Z n0 h146 (((b143, Sum.inr (.byte, [(.int (hb' c0)), (.int (lb' c0)), (.int (hb' c1)), (.int (lb' c1))])) : Addr × OObj) :: ((q, Sum.inr (.char, [(.int c0), (.int c1)])) : Addr × OObj) :: ((a, Sum.inl ("java/lang/String", ns_String, [(.ref b143), (.int (1 : Int32))])) : Addr × OObj) :: F) := V145.putF 2 rfl 0 rfl W146
  have N146 := Fr.snoc X146 N145 (V145.old 2 rfl)
  have Z146 : n0 ≤ h146.size := by rw [W146.size]; exact Z145
  have O146 := O145.wr W146 (V145.old 2 rfl)
  refine OGets.step st146 ?_
  refine OGets.retV X146 hx hlk Bd.returns (hb hby dj42m149_57) (Nat.le_of_ble_eq_true rfl) (Nat.le_of_ble_eq_true rfl) ?_
  have Vp147 : OView Z _ h146 (((a, Sum.inl ("java/lang/String", ns_String, [(.ref b143), (.int (1 : Int32))])) : Addr × OObj) :: ((b143, Sum.inr (.byte, [(.int (hb' c0)), (.int (lb' c0)), (.int (hb' c1)), (.int (lb' c1))])) : Addr × OObj) :: ((q, Sum.inr (.char, [(.int c0), (.int c1)])) : Addr × OObj) :: F) := (V146.bring 2 rfl)
  rw [e146]
  exact ⟨rfl, N146, b143, Vp147, O146⟩
theorem ef_i1_21 (m : MethodId) (x0 : Addr) (x1 : Addr) : entryFrame m #[(.ref x0), (.ref x1)] 2 = mkF m 0 #[.val (.ref x0), .val (.ref x1)] [] := by first | (simp [entryFrame, mkF, argsToLocals, Value.category]; done) | rfl
def Q_i1_21 (Z : State) (a : Addr) (q : Addr) (G : Int32) (c0 : Int32) (c1 : Int32) (h0 : Heap) (n0 : Nat) (F : List (Addr × OObj)) (v : Option Value) (h : Heap) (L : List Loc) : Prop := v = none ∧ Fr n0 L ∧ ∃ b : Addr, OView Z n0 h (((a, Sum.inl ("java/lang/String", ns_String, [(.ref b), (.int (1 : Int32))])) : Addr × OObj) :: ((b, Sum.inr (.byte, [(.int (hb' c0)), (.int (lb' c0)), (.int (hb' c1)), (.int (lb' c1))])) : Addr × OObj) :: ((q, Sum.inr (.char, [(.int c0), (.int c1)])) : Addr × OObj) :: F) ∧ Old Z n0 h
set_option maxRecDepth 65536 in
set_option maxHeartbeats 40000000 in
theorem rm_i1_21 (l : Launch) (Z : State) (a0 : Array Value) (hw : ∀ d ∈ tables_1, d.before a0 Z = true) (ws : List Jvm.Cond) (a : Addr) (q : Addr) (G : Int32) (c0 : Int32) (c1 : Int32) (h0 : Heap) (n0 : Nat) (F : List (Addr × OObj)) (Z0 : n0 ≤ h0.size) (S0 : Sta Z Z.heap "java/lang/String" "COMPACT_STRINGS" "Z" (.int G)) (hG : ¬ G = (0 : Int32)) (SA : Sta Z Z.heap "java/lang/StringUTF16" "$assertionsDisabled" "Z" (.int (1 : Int32))) (SH : Sta Z Z.heap "java/lang/StringUTF16" "HI_BYTE_SHIFT" "I" (.int (0 : Int32))) (SL : Sta Z Z.heap "java/lang/StringUTF16" "LO_BYTE_SHIFT" "I" (.int (8 : Int32))) (u0 : ¬ (255 : Int32) < c0) (u1 : (255 : Int32) < c1) (w1 : Ch c1) (V0 : OView Z n0 h0 (((a, Sum.inl ("java/lang/String", ns_String, [.null, (.int (0 : Int32))])) : Addr × OObj) :: ((q, Sum.inr (.char, [(.int c0), (.int c1)])) : Addr × OObj) :: F)) (O0 : Old Z n0 h0) :
    MetFree l (⟨"java/lang/String", "<init>", "([C)V"⟩ : MethodName) (head1 (Jvm.Cond.code (⟨"java/lang/String", "<init>", "([C)V"⟩ : MethodName) jdk_42_method_3_code 2 none :: ws) ({ frames := 5, cells := 2, slots := 6, locals := 74 } : Room)) (fun a_ U => a_ = #[(.ref a), (.ref q)] ∧ Z.Warmed39 U.vm ∧ U.heap = h0) (fun _ _ _ _ _ => True) (fun _ U o U' => ∃ v L, o = .returned v ∧ Q_i1_21 Z a q G c0 c1 h0 n0 F v U'.heap L ∧ FrameEnd U o U' L ({ frames := 5, cells := 2, slots := 6, locals := 74 } : Room).cells ({ frames := 5, cells := 2, slots := 6, locals := 74 } : Room).slots) := by
  refine MetFree.of_bodySF (plainFor_of_name pn_8) hisR ?_
  intro p e s m args below meth c s₁ Bd hml0 hP hK
  obtain ⟨rfl, hZ, hh⟩ := hP
  have hx := Bd.exec
  have hby := Bd.bytes
  have hlk : meth.locks = false := Bd.notSynchronized
  have hml : c.maxLocals = 2 := hml0
  have hown : s.vm.findClass "java/lang/String" = some m.cls := findClass_of_methodNamed Bd.named
  have hnm := (name_of_methodNamed Bd.named Bd.method).1
  have X0 : Stand p l e ({ frames := 5, cells := 2, slots := 6, locals := 74 } : Room) s m #[(.ref a), (.ref q)] below meth c s₁ [] 0 0 := Stand.of_body Bd
  have e0 : s₁.heap = h0 := by rw [← hh, Bd.state]; rfl
  have N0 := Fr.nil n0
  show OGets p e below (OLeaves s (Q_i1_21 Z a q G c0 c1 h0 n0 F ) ({ frames := 5, cells := 2, slots := 6, locals := 74 } : Room).cells ({ frames := 5, cells := 2, slots := 6, locals := 74 } : Room).slots) _
  refine OGets.enter (ef_i1_21 m a q) ?_
  show OGets p e below _ (s₁.setTop (mkF m 0 #[.val (.ref a), .val (.ref q)] []))
  refine OGets.step (fun _ => XS.aloadN X0.here hx rfl (hb hby dj42m3_0) rfl rfl) ?_
  refine OGets.step (fun _ => XS.aloadN X0.here hx rfl (hb hby dj42m3_1) rfl rfl) ?_
  refine OGets.step (fun _ => XS.iconst X0.here hx rfl (hb hby dj42m3_2)) ?_
  refine OGets.step (fun _ => XS.aloadN X0.here hx rfl (hb hby dj42m3_3) rfl rfl) ?_
  obtain ⟨cl148, Ar148, S148⟩ := V0.arr 1 rfl
  have ln148 : cl148.slots.size.toInt32 = (2 : Int32) := by rw [own_len S148]; rfl
  refine OGets.step (U' := s₁.setTop (mkF m 5 #[.val (.ref a), .val (.ref q)] [(.int (2 : Int32)), (.int (0 : Int32)), (.ref q), (.ref a)])) (fun t kt => ?_) ?_
  · refine X0.arraylength hx (by rw [e0]; exact Ar148.1) (State.isArrayOf_alike hZ.alike Ar148.2.1) (g := (mkF m 4 #[.val (.ref a), .val (.ref q)] [(.ref q), (.int (0 : Int32)), (.ref q), (.ref a)])) rfl rfl (hb hby dj42m3_4) _ ?_
    rw [ln148]; exact kt
  refine OGets.step (fun _ => XS.aconstNull X0.here hx rfl (hb hby dj42m3_5)) ?_
  show OGets p e below _ (s₁.setTop (mkF m 6 #[.val (.ref a), .val (.ref q)] [.null, (.int (2 : Int32)), (.int (0 : Int32)), (.ref q), (.ref a)]))
  obtain ⟨_, _, ⟨T149, L149, k149, n149⟩, -, X149, ⟨Lc149, hQ149, l149, y149, z149⟩, st149⟩ := X0.specialBack hx (y := (⟨"java/lang/String", "<init>", "([CIILjava/lang/Void;)V"⟩ : MethodName)) rfl hown (mvT hZ (hw _ (List.mem_of_getElem? (i := 13) rfl))) (mvT hZ (hw _ (List.mem_of_getElem? (i := 14) rfl))) (mvT hZ (hw _ (List.mem_of_getElem? (i := 16) rfl))) (by decide) (backOf (W := 0) (rm_i4_21 l Z a0 hw [] a q G c0 c1 h0 n0 _ Z0 S0 hG SA SH SL u0 u1 w1 V0 O0) hZ (hw _ (List.mem_of_getElem? (i := 16) rfl)) (hw _ (List.mem_of_getElem? (i := 8) rfl)) (by decide) (by decide)) (g := (mkF m 6 #[.val (.ref a), .val (.ref q)] [.null, (.int (2 : Int32)), (.int (0 : Int32)), (.ref q), (.ref a)])) rfl (by rw [hml]; rfl) (Steps.refl _) (a := a) (argsL := [(.ref q), (.int (0 : Int32)), (.int (2 : Int32)), .null]) (rest := []) (lenOf pd_10 rfl) rfl (by show 2 * 0 + _ ≤ _; exact Nat.le_of_eq rfl) (hb hby dj42m3_6) (fun _ _ => ⟨rfl, e0, Nat.le_of_ble_eq_true rfl, Nat.le_of_ble_eq_true rfl⟩)
  dsimp only [Pt.U, Pt.locs, Pt.cells, Pt.slots] at X149 l149 y149 z149 st149 hQ149
  rw [l149, y149, z149] at X149
  obtain ⟨rfl, N149q, b149, V149, O149q⟩ := hQ149
  have N149 := Fr.app N0 N149q
  have V149v : OView Z n0 T149.heap (((a, Sum.inl ("java/lang/String", ns_String, [(.ref b149), (.int (1 : Int32))])) : Addr × OObj) :: ((b149, Sum.inr (.byte, [(.int (hb' c0)), (.int (lb' c0)), (.int (hb' c1)), (.int (lb' c1))])) : Addr × OObj) :: ((q, Sum.inr (.char, [(.int c0), (.int c1)])) : Addr × OObj) :: F) := V149
  have Z149 : n0 ≤ T149.heap.size := V149v.big 0 rfl
  refine OGets.after st149 ?_
  refine OGets.retV X149 hx hlk Bd.returns (hb hby dj42m3_9) (Nat.le_of_ble_eq_true rfl) (Nat.le_of_ble_eq_true rfl) ?_
  exact ⟨rfl, N149, b149, V149v, O149q⟩
theorem ef_c5_22 (m : MethodId) (x0 : Addr) (x1 : Int32) (x2 : Addr) (x3 : Int32) (x4 : Int32) : entryFrame m #[(.ref x0), (.int x1), (.ref x2), (.int x3), (.int x4)] 7 = mkF m 0 #[.val (.ref x0), .val (.int x1), .val (.ref x2), .val (.int x3), .val (.int x4), .unset, .unset] [] := by first | (simp [entryFrame, mkF, argsToLocals, Value.category]; done) | rfl
def Q_c5_22 (Z : State) (a : Addr) (b : Addr) (c0 : Int32) (c1 : Int32) (h0 : Heap) (n0 : Nat) (F : List (Addr × OObj)) (v : Option Value) (h : Heap) (L : List Loc) : Prop := v = some (.int (2 : Int32)) ∧ Fr n0 L ∧ OView Z n0 h (((a, Sum.inr (.char, [(.int c0), (.int c1)])) : Addr × OObj) :: ((b, Sum.inr (.byte, [(.int (yb c0)), (.int (yb c1))])) : Addr × OObj) :: F) ∧ Old Z n0 h
set_option maxRecDepth 65536 in
set_option maxHeartbeats 40000000 in
theorem rm_c5_22 (l : Launch) (Z : State) (a0 : Array Value) (hw : ∀ d ∈ tables_1, d.before a0 Z = true) (ws : List Jvm.Cond) (a : Addr) (b : Addr) (c0 : Int32) (c1 : Int32) (h0 : Heap) (n0 : Nat) (F : List (Addr × OObj)) (Z0 : n0 ≤ h0.size) (u0 : ¬ (255 : Int32) < c0) (u1 : ¬ (255 : Int32) < c1) (V0 : OView Z n0 h0 (((a, Sum.inr (.char, [(.int c0), (.int c1)])) : Addr × OObj) :: ((b, Sum.inr (.byte, [(.int (0 : Int32)), (.int (0 : Int32))])) : Addr × OObj) :: F)) (O0 : Old Z n0 h0) :
    MetFree l (⟨"java/lang/StringUTF16", "compress", "([CI[BII)I"⟩ : MethodName) (head1 (Jvm.Cond.code (⟨"java/lang/StringUTF16", "compress", "([CI[BII)I"⟩ : MethodName) jdk_52_method_21_code 7 (some .int) :: ws) ({ frames := 0, cells := 0, slots := 0, locals := 0 } : Room)) (fun a_ U => a_ = #[(.ref a), (.int (0 : Int32)), (.ref b), (.int (0 : Int32)), (.int (2 : Int32))] ∧ Z.Warmed39 U.vm ∧ U.heap = h0) (fun _ _ _ _ _ => True) (fun _ U o U' => ∃ v L, o = .returned v ∧ Q_c5_22 Z a b c0 c1 h0 n0 F v U'.heap L ∧ FrameEnd U o U' L ({ frames := 0, cells := 0, slots := 0, locals := 0 } : Room).cells ({ frames := 0, cells := 0, slots := 0, locals := 0 } : Room).slots) := by
  refine MetFree.of_bodySF (plainFor_of_name pn_1) hisR ?_
  intro p e s m args below meth c s₁ Bd hml0 hP hK
  obtain ⟨rfl, hZ, hh⟩ := hP
  have hx := Bd.exec
  have hby := Bd.bytes
  have hlk : meth.locks = false := Bd.notSynchronized
  have hml : c.maxLocals = 7 := hml0
  have hown : s.vm.findClass "java/lang/StringUTF16" = some m.cls := findClass_of_methodNamed Bd.named
  have hnm := (name_of_methodNamed Bd.named Bd.method).1
  have X0 : Stand p l e ({ frames := 0, cells := 0, slots := 0, locals := 0 } : Room) s m #[(.ref a), (.int (0 : Int32)), (.ref b), (.int (0 : Int32)), (.int (2 : Int32))] below meth c s₁ [] 0 0 := Stand.of_body Bd
  have e0 : s₁.heap = h0 := by rw [← hh, Bd.state]; rfl
  have N0 := Fr.nil n0
  show OGets p e below (OLeaves s (Q_c5_22 Z a b c0 c1 h0 n0 F ) ({ frames := 0, cells := 0, slots := 0, locals := 0 } : Room).cells ({ frames := 0, cells := 0, slots := 0, locals := 0 } : Room).slots) _
  refine OGets.enter (ef_c5_22 m a (0 : Int32) b (0 : Int32) (2 : Int32)) ?_
  show OGets p e below _ (s₁.setTop (mkF m 0 #[.val (.ref a), .val (.int (0 : Int32)), .val (.ref b), .val (.int (0 : Int32)), .val (.int (2 : Int32)), .unset, .unset] []))
  refine OGets.step (fun _ => XS.iconst X0.here hx rfl (hb hby dj52m21_0)) ?_
  refine OGets.step (fun _ => XS.istore X0.here hx rfl (hb hby dj52m21_1) rfl (l' := #[.val (.ref a), .val (.int (0 : Int32)), .val (.ref b), .val (.int (0 : Int32)), .val (.int (2 : Int32)), .val (.int (0 : Int32)), .unset]) rfl) ?_
  refine OGets.step (fun _ => XS.iload X0.here hx rfl (hb hby dj52m21_3) rfl) ?_
  refine OGets.step (fun _ => XS.iload X0.here hx rfl (hb hby dj52m21_5) rfl) ?_
  refine OGets.step (fun _ => XS.icmpNo X0.here hx rfl (hb hby dj52m21_7) rfl (tlt (by decide : (0 : Int32) < (2 : Int32))).2.1) ?_
  refine OGets.step (fun _ => XS.aloadN X0.here hx rfl (hb hby dj52m21_10) rfl rfl) ?_
  show OGets p e below _ (s₁.setTop (mkF m 11 #[.val (.ref a), .val (.int (0 : Int32)), .val (.ref b), .val (.int (0 : Int32)), .val (.int (2 : Int32)), .val (.int (0 : Int32)), .unset] [(.ref a)]))
  refine OGets.step (fun _ => XS.iloadN X0.here hx rfl (hb hby dj52m21_11) rfl) ?_
  obtain ⟨cl151, Ar151, S151⟩ := V0.arr 0 rfl
  refine OGets.step (fun _ => X0.caload hx (j := (0 : Int32)) (v := (.int c0)) (by rw [e0]; exact Ar151.1) (State.isArrayOf_alike hZ.alike Ar151.2.1) Ar151.2.2 (own_inb S151 0 (by decide) (Nat.le_of_ble_eq_true rfl)) (own_get S151 0 (by decide) rfl) (g := (mkF m 12 #[.val (.ref a), .val (.int (0 : Int32)), .val (.ref b), .val (.int (0 : Int32)), .val (.int (2 : Int32)), .val (.int (0 : Int32)), .unset] [(.int (0 : Int32)), (.ref a)])) rfl rfl (hb hby dj52m21_12) _) ?_
  refine OGets.step (fun _ => XS.istore X0.here hx rfl (hb hby dj52m21_13) rfl (l' := #[.val (.ref a), .val (.int (0 : Int32)), .val (.ref b), .val (.int (0 : Int32)), .val (.int (2 : Int32)), .val (.int (0 : Int32)), .val (.int c0)]) rfl) ?_
  refine OGets.step (fun _ => XS.iload X0.here hx rfl (hb hby dj52m21_15) rfl) ?_
  refine OGets.step (fun _ => XS.sipush X0.here hx rfl (hb hby dj52m21_17)) ?_
  refine OGets.step (fun _ => XS.icmpYes X0.here hx rfl (pc0 := 20) (pc' := 26) rfl (hb hby dj52m21_20) rfl (flt (u0 : ¬ ((255 : Int32) < c0))).2.2.2 (by decide) (by decide)) ?_
  show OGets p e below _ (s₁.setTop (mkF m 26 #[.val (.ref a), .val (.int (0 : Int32)), .val (.ref b), .val (.int (0 : Int32)), .val (.int (2 : Int32)), .val (.int (0 : Int32)), .val (.int c0)] []))
  refine OGets.step (fun _ => XS.aloadN X0.here hx rfl (hb hby dj52m21_26) rfl rfl) ?_
  refine OGets.step (fun _ => XS.iloadN X0.here hx rfl (hb hby dj52m21_27) rfl) ?_
  refine OGets.step (fun _ => XS.iload X0.here hx rfl (hb hby dj52m21_28) rfl) ?_
  refine OGets.step (fun _ => XS.i2b X0.here hx rfl (hb hby dj52m21_30) rfl) ?_
  obtain ⟨cl153, Ar153, S153⟩ := V0.arr 1 rfl
  obtain ⟨T153, h153, X153, e153, W153', st153⟩ := stB X0 hx hZ e0 Ar153 (j := (0 : Int32)) (own_inb S153 0 (by decide) (Nat.le_of_ble_eq_true rfl)) (g := (mkF m 31 #[.val (.ref a), .val (.int (0 : Int32)), .val (.ref b), .val (.int (0 : Int32)), .val (.int (2 : Int32)), .val (.int (0 : Int32)), .val (.int c0)] [(.int (c0.toInt8.toInt32)), (.int (0 : Int32)), (.ref b)])) rfl rfl (hb hby dj52m21_31)
  have W153 := own_wr (vs := []) 0 (by decide) W153'
  have V153 : OView Z n0 h153 (((a, Sum.inr (.char, [(.int c0), (.int c1)])) : Addr × OObj) :: ((b, Sum.inr (.byte, [(.int (yb c0)), (.int (0 : Int32))])) : Addr × OObj) :: F) := V0.putA 1 rfl W153
  have N153 := Fr.snoc X153 N0 (V0.old 1 rfl)
  have Z153 : n0 ≤ h153.size := by rw [W153.size]; exact Z0
  have O153 := O0.wr W153 (V0.old 1 rfl)
  refine OGets.step st153 ?_
  refine OGets.step (fun _ => XS.iinc X153.here hx rfl (hb hby dj52m21_32) rfl (l' := #[.val (.ref a), .val (.int (1 : Int32)), .val (.ref b), .val (.int (0 : Int32)), .val (.int (2 : Int32)), .val (.int (0 : Int32)), .val (.int c0)]) rfl) ?_
  refine OGets.step (fun _ => XS.iinc X153.here hx rfl (hb hby dj52m21_35) rfl (l' := #[.val (.ref a), .val (.int (1 : Int32)), .val (.ref b), .val (.int (1 : Int32)), .val (.int (2 : Int32)), .val (.int (0 : Int32)), .val (.int c0)]) rfl) ?_
  refine OGets.step (fun _ => XS.iinc X153.here hx rfl (hb hby dj52m21_38) rfl (l' := #[.val (.ref a), .val (.int (1 : Int32)), .val (.ref b), .val (.int (1 : Int32)), .val (.int (2 : Int32)), .val (.int (1 : Int32)), .val (.int c0)]) rfl) ?_
  refine OGets.step (fun _ => XS.goto X153.here hx rfl (pc0 := 41) (pc' := 3) rfl (hb hby dj52m21_41) (by decide) (by decide)) ?_
  refine OGets.step (fun _ => XS.iload X153.here hx rfl (hb hby dj52m21_3) rfl) ?_
  show OGets p e below _ (T153.setTop (mkF m 5 #[.val (.ref a), .val (.int (1 : Int32)), .val (.ref b), .val (.int (1 : Int32)), .val (.int (2 : Int32)), .val (.int (1 : Int32)), .val (.int c0)] [(.int (1 : Int32))]))
  refine OGets.step (fun _ => XS.iload X153.here hx rfl (hb hby dj52m21_5) rfl) ?_
  refine OGets.step (fun _ => XS.icmpNo X153.here hx rfl (hb hby dj52m21_7) rfl (tlt (by decide : (1 : Int32) < (2 : Int32))).2.1) ?_
  refine OGets.step (fun _ => XS.aloadN X153.here hx rfl (hb hby dj52m21_10) rfl rfl) ?_
  refine OGets.step (fun _ => XS.iloadN X153.here hx rfl (hb hby dj52m21_11) rfl) ?_
  obtain ⟨cl155, Ar155, S155⟩ := V153.arr 0 rfl
  refine OGets.step (fun _ => X153.caload hx (j := (1 : Int32)) (v := (.int c1)) (by rw [e153]; exact Ar155.1) (State.isArrayOf_alike hZ.alike Ar155.2.1) Ar155.2.2 (own_inb S155 1 (by decide) (Nat.le_of_ble_eq_true rfl)) (own_get S155 1 (by decide) rfl) (g := (mkF m 12 #[.val (.ref a), .val (.int (1 : Int32)), .val (.ref b), .val (.int (1 : Int32)), .val (.int (2 : Int32)), .val (.int (1 : Int32)), .val (.int c0)] [(.int (1 : Int32)), (.ref a)])) rfl rfl (hb hby dj52m21_12) _) ?_
  refine OGets.step (fun _ => XS.istore X153.here hx rfl (hb hby dj52m21_13) rfl (l' := #[.val (.ref a), .val (.int (1 : Int32)), .val (.ref b), .val (.int (1 : Int32)), .val (.int (2 : Int32)), .val (.int (1 : Int32)), .val (.int c1)]) rfl) ?_
  show OGets p e below _ (T153.setTop (mkF m 15 #[.val (.ref a), .val (.int (1 : Int32)), .val (.ref b), .val (.int (1 : Int32)), .val (.int (2 : Int32)), .val (.int (1 : Int32)), .val (.int c1)] []))
  refine OGets.step (fun _ => XS.iload X153.here hx rfl (hb hby dj52m21_15) rfl) ?_
  refine OGets.step (fun _ => XS.sipush X153.here hx rfl (hb hby dj52m21_17)) ?_
  refine OGets.step (fun _ => XS.icmpYes X153.here hx rfl (pc0 := 20) (pc' := 26) rfl (hb hby dj52m21_20) rfl (flt (u1 : ¬ ((255 : Int32) < c1))).2.2.2 (by decide) (by decide)) ?_
  refine OGets.step (fun _ => XS.aloadN X153.here hx rfl (hb hby dj52m21_26) rfl rfl) ?_
  refine OGets.step (fun _ => XS.iloadN X153.here hx rfl (hb hby dj52m21_27) rfl) ?_
  refine OGets.step (fun _ => XS.iload X153.here hx rfl (hb hby dj52m21_28) rfl) ?_
  show OGets p e below _ (T153.setTop (mkF m 30 #[.val (.ref a), .val (.int (1 : Int32)), .val (.ref b), .val (.int (1 : Int32)), .val (.int (2 : Int32)), .val (.int (1 : Int32)), .val (.int c1)] [(.int c1), (.int (1 : Int32)), (.ref b)]))
  refine OGets.step (fun _ => XS.i2b X153.here hx rfl (hb hby dj52m21_30) rfl) ?_
  obtain ⟨cl157, Ar157, S157⟩ := V153.arr 1 rfl
  obtain ⟨T157, h157, X157, e157, W157', st157⟩ := stB X153 hx hZ e153 Ar157 (j := (1 : Int32)) (own_inb S157 1 (by decide) (Nat.le_of_ble_eq_true rfl)) (g := (mkF m 31 #[.val (.ref a), .val (.int (1 : Int32)), .val (.ref b), .val (.int (1 : Int32)), .val (.int (2 : Int32)), .val (.int (1 : Int32)), .val (.int c1)] [(.int (c1.toInt8.toInt32)), (.int (1 : Int32)), (.ref b)])) rfl rfl (hb hby dj52m21_31)
  have W157 := own_wr (vs := []) 1 (by decide) W157'
  have V157 : OView Z n0 h157 (((a, Sum.inr (.char, [(.int c0), (.int c1)])) : Addr × OObj) :: ((b, Sum.inr (.byte, [(.int (yb c0)), (.int (yb c1))])) : Addr × OObj) :: F) := V153.putA 1 rfl W157
  have N157 := Fr.snoc X157 N153 (V153.old 1 rfl)
  have Z157 : n0 ≤ h157.size := by rw [W157.size]; exact Z153
  have O157 := O153.wr W157 (V153.old 1 rfl)
  refine OGets.step st157 ?_
  refine OGets.step (fun _ => XS.iinc X157.here hx rfl (hb hby dj52m21_32) rfl (l' := #[.val (.ref a), .val (.int (2 : Int32)), .val (.ref b), .val (.int (1 : Int32)), .val (.int (2 : Int32)), .val (.int (1 : Int32)), .val (.int c1)]) rfl) ?_
  refine OGets.step (fun _ => XS.iinc X157.here hx rfl (hb hby dj52m21_35) rfl (l' := #[.val (.ref a), .val (.int (2 : Int32)), .val (.ref b), .val (.int (2 : Int32)), .val (.int (2 : Int32)), .val (.int (1 : Int32)), .val (.int c1)]) rfl) ?_
  refine OGets.step (fun _ => XS.iinc X157.here hx rfl (hb hby dj52m21_38) rfl (l' := #[.val (.ref a), .val (.int (2 : Int32)), .val (.ref b), .val (.int (2 : Int32)), .val (.int (2 : Int32)), .val (.int (2 : Int32)), .val (.int c1)]) rfl) ?_
  refine OGets.step (fun _ => XS.goto X157.here hx rfl (pc0 := 41) (pc' := 3) rfl (hb hby dj52m21_41) (by decide) (by decide)) ?_
  refine OGets.step (fun _ => XS.iload X157.here hx rfl (hb hby dj52m21_3) rfl) ?_
  show OGets p e below _ (T157.setTop (mkF m 5 #[.val (.ref a), .val (.int (2 : Int32)), .val (.ref b), .val (.int (2 : Int32)), .val (.int (2 : Int32)), .val (.int (2 : Int32)), .val (.int c1)] [(.int (2 : Int32))]))
  refine OGets.step (fun _ => XS.iload X157.here hx rfl (hb hby dj52m21_5) rfl) ?_
  refine OGets.step (fun _ => XS.icmpYes X157.here hx rfl (pc0 := 7) (pc' := 44) rfl (hb hby dj52m21_7) rfl (flt (by decide : ¬ ((2 : Int32) < (2 : Int32)))).2.1 (by decide) (by decide)) ?_
  refine OGets.step (fun _ => XS.iload X157.here hx rfl (hb hby dj52m21_44) rfl) ?_
  refine OGets.retI X157 hx hlk Bd.returns (hb hby dj52m21_46) (Nat.le_of_ble_eq_true rfl) (Nat.le_of_ble_eq_true rfl) ?_
  rw [e157]
  exact ⟨rfl, N157, V157, O157⟩
theorem ef_c3_22 (m : MethodId) (x0 : Addr) (x1 : Int32) (x2 : Int32) : entryFrame m #[(.ref x0), (.int x1), (.int x2)] 6 = mkF m 0 #[.val (.ref x0), .val (.int x1), .val (.int x2), .unset, .unset, .unset] [] := by first | (simp [entryFrame, mkF, argsToLocals, Value.category]; done) | rfl
def Q_c3_22 (Z : State) (a : Addr) (c0 : Int32) (c1 : Int32) (h0 : Heap) (n0 : Nat) (F : List (Addr × OObj)) (v : Option Value) (h : Heap) (L : List Loc) : Prop := ∃ b : Addr, v = some (.ref b) ∧ Fr n0 L ∧ OView Z n0 h (((b, Sum.inr (.byte, [(.int (yb c0)), (.int (yb c1))])) : Addr × OObj) :: ((a, Sum.inr (.char, [(.int c0), (.int c1)])) : Addr × OObj) :: F) ∧ Old Z n0 h
set_option maxRecDepth 65536 in
set_option maxHeartbeats 40000000 in
theorem rm_c3_22 (l : Launch) (Z : State) (a0 : Array Value) (hw : ∀ d ∈ tables_1, d.before a0 Z = true) (ws : List Jvm.Cond) (a : Addr) (c0 : Int32) (c1 : Int32) (h0 : Heap) (n0 : Nat) (F : List (Addr × OObj)) (Z0 : n0 ≤ h0.size) (SA : Sta Z Z.heap "java/lang/StringUTF16" "$assertionsDisabled" "Z" (.int (1 : Int32))) (SH : Sta Z Z.heap "java/lang/StringUTF16" "HI_BYTE_SHIFT" "I" (.int (0 : Int32))) (SL : Sta Z Z.heap "java/lang/StringUTF16" "LO_BYTE_SHIFT" "I" (.int (8 : Int32))) (u0 : ¬ (255 : Int32) < c0) (u1 : ¬ (255 : Int32) < c1) (V0 : OView Z n0 h0 (((a, Sum.inr (.char, [(.int c0), (.int c1)])) : Addr × OObj) :: F)) (O0 : Old Z n0 h0) :
    MetFree l (⟨"java/lang/StringUTF16", "compress", "([CII)[B"⟩ : MethodName) (head1 (Jvm.Cond.code (⟨"java/lang/StringUTF16", "compress", "([CII)[B"⟩ : MethodName) jdk_52_method_16_code 6 (some (.array .byte)) :: ws) ({ frames := 1, cells := 1, slots := 2, locals := 18 } : Room)) (fun a_ U => a_ = #[(.ref a), (.int (0 : Int32)), (.int (2 : Int32))] ∧ Z.Warmed39 U.vm ∧ U.heap = h0) (fun _ _ _ _ _ => True) (fun _ U o U' => ∃ v L, o = .returned v ∧ Q_c3_22 Z a c0 c1 h0 n0 F v U'.heap L ∧ FrameEnd U o U' L ({ frames := 1, cells := 1, slots := 2, locals := 18 } : Room).cells ({ frames := 1, cells := 1, slots := 2, locals := 18 } : Room).slots) := by
  refine MetFree.of_bodySF (plainFor_of_name pn_1) hisR ?_
  intro p e s m args below meth c s₁ Bd hml0 hP hK
  obtain ⟨rfl, hZ, hh⟩ := hP
  have hx := Bd.exec
  have hby := Bd.bytes
  have hlk : meth.locks = false := Bd.notSynchronized
  have hml : c.maxLocals = 6 := hml0
  have hown : s.vm.findClass "java/lang/StringUTF16" = some m.cls := findClass_of_methodNamed Bd.named
  have hnm := (name_of_methodNamed Bd.named Bd.method).1
  have X0 : Stand p l e ({ frames := 1, cells := 1, slots := 2, locals := 18 } : Room) s m #[(.ref a), (.int (0 : Int32)), (.int (2 : Int32))] below meth c s₁ [] 0 0 := Stand.of_body Bd
  have e0 : s₁.heap = h0 := by rw [← hh, Bd.state]; rfl
  have N0 := Fr.nil n0
  show OGets p e below (OLeaves s (Q_c3_22 Z a c0 c1 h0 n0 F ) ({ frames := 1, cells := 1, slots := 2, locals := 18 } : Room).cells ({ frames := 1, cells := 1, slots := 2, locals := 18 } : Room).slots) _
  refine OGets.enter (ef_c3_22 m a (0 : Int32) (2 : Int32)) ?_
  show OGets p e below _ (s₁.setTop (mkF m 0 #[.val (.ref a), .val (.int (0 : Int32)), .val (.int (2 : Int32)), .unset, .unset, .unset] []))
  refine OGets.step (fun _ => XS.iloadN X0.here hx rfl (hb hby dj52m16_0) rfl) ?_
  obtain ⟨T159, h159, k159, X159, e159, E159, A159, st159⟩ := newP X0 hx hZ (hw _ (List.mem_of_getElem? (i := 21) rfl)) e0 (g := (mkF m 1 #[.val (.ref a), .val (.int (0 : Int32)), .val (.int (2 : Int32)), .unset, .unset, .unset] [(.int (2 : Int32))])) rfl (hb hby dj52m16_1) rfl (by decide) (cap := 2) (by decide) (by decide) (by decide) (by decide)
  have V159' := V0.newArr Z0 E159 A159 2 rfl
  have Z159 : n0 ≤ h159.size := Nat.le_trans Z0 E159.1
  obtain ⟨b159, g159⟩ : ∃ z, z = h0.size := ⟨_, rfl⟩
  rw [← g159] at V159' st159
  have V159 : OView Z n0 h159 (((b159, Sum.inr (.byte, [(.int (0 : Int32)), (.int (0 : Int32))])) : Addr × OObj) :: ((a, Sum.inr (.char, [(.int c0), (.int c1)])) : Addr × OObj) :: F) := V159'
  have O159 := O0.ext E159
  refine OGets.step st159 ?_
  refine OGets.step (fun _ => XS.astoreN X159.here hx rfl (hb hby dj52m16_3) rfl rfl (l' := #[.val (.ref a), .val (.int (0 : Int32)), .val (.int (2 : Int32)), .val (.ref b159), .unset, .unset]) rfl) ?_
  refine OGets.step (fun _ => XS.aloadN X159.here hx rfl (hb hby dj52m16_4) rfl rfl) ?_
  refine OGets.step (fun _ => XS.iloadN X159.here hx rfl (hb hby dj52m16_5) rfl) ?_
  refine OGets.step (fun _ => XS.aloadN X159.here hx rfl (hb hby dj52m16_6) rfl rfl) ?_
  refine OGets.step (fun _ => XS.iconst X159.here hx rfl (hb hby dj52m16_7)) ?_
  show OGets p e below _ (T159.setTop (mkF m 8 #[.val (.ref a), .val (.int (0 : Int32)), .val (.int (2 : Int32)), .val (.ref b159), .unset, .unset] [(.int (0 : Int32)), (.ref b159), (.int (0 : Int32)), (.ref a)]))
  refine OGets.step (fun _ => XS.iloadN X159.here hx rfl (hb hby dj52m16_8) rfl) ?_
  have V160_ : OView Z _ h159 (((a, Sum.inr (.char, [(.int c0), (.int c1)])) : Addr × OObj) :: ((b159, Sum.inr (.byte, [(.int (0 : Int32)), (.int (0 : Int32))])) : Addr × OObj) :: F) := (V159.bring 1 rfl)
  obtain ⟨_, _, ⟨T160, L160, k160, n160⟩, -, X160, ⟨Lc160, hQ160, l160, y160, z160⟩, st160⟩ := Jvm.LawKit.callS X159 hx (y := (⟨"java/lang/StringUTF16", "compress", "([CI[BII)I"⟩ : MethodName)) hown (mvT hZ (hw _ (List.mem_of_getElem? (i := 49) rfl))) (mvT hZ (hw _ (List.mem_of_getElem? (i := 50) rfl))) (mvT hZ (hw _ (List.mem_of_getElem? (i := 47) rfl))) (mvT hZ (hw _ (List.mem_of_getElem? (i := 51) rfl))) (by decide) (backOf (W := 0) (rm_c5_22 l Z a0 hw [] a b159 c0 c1 h159 n0 _ Z159 u0 u1 V160_ O159) hZ (hw _ (List.mem_of_getElem? (i := 51) rfl)) (hw _ (List.mem_of_getElem? (i := 47) rfl)) (by decide) (by decide)) (g := (mkF m 9 #[.val (.ref a), .val (.int (0 : Int32)), .val (.int (2 : Int32)), .val (.ref b159), .unset, .unset] [(.int (2 : Int32)), (.int (0 : Int32)), (.ref b159), (.int (0 : Int32)), (.ref a)])) rfl (by rw [hml]; rfl) (argsL := [(.ref a), (.int (0 : Int32)), (.ref b159), (.int (0 : Int32)), (.int (2 : Int32))]) (rest := []) (lenOf pd_5 rfl) rfl (by show 2 * 0 + _ ≤ _; exact Nat.le_of_eq rfl) (hb hby dj52m16_9) (fun _ _ => ⟨rfl, e159, Nat.le_of_ble_eq_true rfl, Nat.le_of_ble_eq_true rfl⟩)
  dsimp only [Pt.U, Pt.locs, Pt.cells, Pt.slots] at X160 l160 y160 z160 st160 hQ160
  rw [l160, y160, z160] at X160
  obtain ⟨rfl, N160q, V160, O160q⟩ := hQ160
  have N160 := Fr.app N0 N160q
  have V160v : OView Z n0 T160.heap (((a, Sum.inr (.char, [(.int c0), (.int c1)])) : Addr × OObj) :: ((b159, Sum.inr (.byte, [(.int (yb c0)), (.int (yb c1))])) : Addr × OObj) :: F) := V160
  have Z160 : n0 ≤ T160.heap.size := V160v.big 0 rfl
  refine OGets.step st160 ?_
  refine OGets.step (fun _ => XS.istore X160.here hx rfl (hb hby dj52m16_12) rfl (l' := #[.val (.ref a), .val (.int (0 : Int32)), .val (.int (2 : Int32)), .val (.ref b159), .val (.int (2 : Int32)), .unset]) rfl) ?_
  refine OGets.step (fun _ => XS.iload X160.here hx rfl (hb hby dj52m16_14) rfl) ?_
  refine OGets.step (fun _ => XS.iloadN X160.here hx rfl (hb hby dj52m16_16) rfl) ?_
  refine OGets.step (fun _ => XS.icmpYes X160.here hx rfl (pc0 := 17) (pc' := 57) rfl (hb hby dj52m16_17) rfl (teq (by decide : (2 : Int32) = (2 : Int32))).1 (by decide) (by decide)) ?_
  refine OGets.step (fun _ => XS.aloadN X160.here hx rfl (hb hby dj52m16_57) rfl rfl) ?_
  show OGets p e below _ (T160.setTop (mkF m 58 #[.val (.ref a), .val (.int (0 : Int32)), .val (.int (2 : Int32)), .val (.ref b159), .val (.int (2 : Int32)), .unset] [(.ref b159)]))
  refine OGets.retA X160 hx hlk (t := (.array .byte)) Bd.returns rfl rfl rfl (hb hby dj52m16_58) (Nat.le_of_ble_eq_true rfl) (Nat.le_of_ble_eq_true rfl) ?_
  have Vp162 : OView Z _ T160.heap (((b159, Sum.inr (.byte, [(.int (yb c0)), (.int (yb c1))])) : Addr × OObj) :: ((a, Sum.inr (.char, [(.int c0), (.int c1)])) : Addr × OObj) :: F) := (V160v.bring 1 rfl)
  exact ⟨b159, rfl, N160, Vp162, O160q⟩
theorem ef_i4_22 (m : MethodId) (x0 : Addr) (x1 : Addr) (x2 : Int32) (x3 : Int32) : entryFrame m #[(.ref x0), (.ref x1), (.int x2), (.int x3), .null] 6 = mkF m 0 #[.val (.ref x0), .val (.ref x1), .val (.int x2), .val (.int x3), .val .null, .unset] [] := by first | (simp [entryFrame, mkF, argsToLocals, Value.category]; done) | rfl
def Q_i4_22 (Z : State) (a : Addr) (q : Addr) (G : Int32) (c0 : Int32) (c1 : Int32) (h0 : Heap) (n0 : Nat) (F : List (Addr × OObj)) (v : Option Value) (h : Heap) (L : List Loc) : Prop := v = none ∧ Fr n0 L ∧ ∃ b : Addr, OView Z n0 h (((a, Sum.inl ("java/lang/String", ns_String, [(.ref b), (.int (0 : Int32))])) : Addr × OObj) :: ((b, Sum.inr (.byte, [(.int (yb c0)), (.int (yb c1))])) : Addr × OObj) :: ((q, Sum.inr (.char, [(.int c0), (.int c1)])) : Addr × OObj) :: F) ∧ Old Z n0 h
set_option maxRecDepth 65536 in
set_option maxHeartbeats 40000000 in
theorem rm_i4_22 (l : Launch) (Z : State) (a0 : Array Value) (hw : ∀ d ∈ tables_1, d.before a0 Z = true) (ws : List Jvm.Cond) (a : Addr) (q : Addr) (G : Int32) (c0 : Int32) (c1 : Int32) (h0 : Heap) (n0 : Nat) (F : List (Addr × OObj)) (Z0 : n0 ≤ h0.size) (S0 : Sta Z Z.heap "java/lang/String" "COMPACT_STRINGS" "Z" (.int G)) (hG : ¬ G = (0 : Int32)) (SA : Sta Z Z.heap "java/lang/StringUTF16" "$assertionsDisabled" "Z" (.int (1 : Int32))) (SH : Sta Z Z.heap "java/lang/StringUTF16" "HI_BYTE_SHIFT" "I" (.int (0 : Int32))) (SL : Sta Z Z.heap "java/lang/StringUTF16" "LO_BYTE_SHIFT" "I" (.int (8 : Int32))) (u0 : ¬ (255 : Int32) < c0) (u1 : ¬ (255 : Int32) < c1) (V0 : OView Z n0 h0 (((a, Sum.inl ("java/lang/String", ns_String, [.null, (.int (0 : Int32))])) : Addr × OObj) :: ((q, Sum.inr (.char, [(.int c0), (.int c1)])) : Addr × OObj) :: F)) (O0 : Old Z n0 h0) :
    MetFree l (⟨"java/lang/String", "<init>", "([CIILjava/lang/Void;)V"⟩ : MethodName) (head1 (Jvm.Cond.code (⟨"java/lang/String", "<init>", "([CIILjava/lang/Void;)V"⟩ : MethodName) jdk_42_method_149_code 6 none :: ws) ({ frames := 2, cells := 1, slots := 2, locals := 35 } : Room)) (fun a_ U => a_ = #[(.ref a), (.ref q), (.int (0 : Int32)), (.int (2 : Int32)), .null] ∧ Z.Warmed39 U.vm ∧ U.heap = h0) (fun _ _ _ _ _ => True) (fun _ U o U' => ∃ v L, o = .returned v ∧ Q_i4_22 Z a q G c0 c1 h0 n0 F v U'.heap L ∧ FrameEnd U o U' L ({ frames := 2, cells := 1, slots := 2, locals := 35 } : Room).cells ({ frames := 2, cells := 1, slots := 2, locals := 35 } : Room).slots) := by
  refine MetFree.of_bodySF (plainFor_of_name pn_8) hisR ?_
  intro p e s m args below meth c s₁ Bd hml0 hP hK
  obtain ⟨rfl, hZ, hh⟩ := hP
  have hx := Bd.exec
  have hby := Bd.bytes
  have hlk : meth.locks = false := Bd.notSynchronized
  have hml : c.maxLocals = 6 := hml0
  have hown : s.vm.findClass "java/lang/String" = some m.cls := findClass_of_methodNamed Bd.named
  have hnm := (name_of_methodNamed Bd.named Bd.method).1
  have X0 : Stand p l e ({ frames := 2, cells := 1, slots := 2, locals := 35 } : Room) s m #[(.ref a), (.ref q), (.int (0 : Int32)), (.int (2 : Int32)), .null] below meth c s₁ [] 0 0 := Stand.of_body Bd
  have e0 : s₁.heap = h0 := by rw [← hh, Bd.state]; rfl
  have N0 := Fr.nil n0
  show OGets p e below (OLeaves s (Q_i4_22 Z a q G c0 c1 h0 n0 F ) ({ frames := 2, cells := 1, slots := 2, locals := 35 } : Room).cells ({ frames := 2, cells := 1, slots := 2, locals := 35 } : Room).slots) _
  refine OGets.enter (ef_i4_22 m a q (0 : Int32) (2 : Int32)) ?_
  show OGets p e below _ (s₁.setTop (mkF m 0 #[.val (.ref a), .val (.ref q), .val (.int (0 : Int32)), .val (.int (2 : Int32)), .val .null, .unset] []))
  refine OGets.step (fun _ => XS.aloadN X0.here hx rfl (hb hby dj42m149_0) rfl rfl) ?_
  obtain ⟨T163, X163, e163, st163⟩ := initO X0 hx hZ hown (hw _ (List.mem_of_getElem? (i := 17) rfl)) (hw _ (List.mem_of_getElem? (i := 18) rfl)) (hw _ (List.mem_of_getElem? (i := 19) rfl)) e0 (g := (mkF m 1 #[.val (.ref a), .val (.ref q), .val (.int (0 : Int32)), .val (.int (2 : Int32)), .val .null, .unset] [(.ref a)])) rfl (by rw [hml]; rfl) rfl (hb hby dj42m149_1) (by decide) (W := 0) (by show 2 * 0 + _ ≤ _; exact Nat.le_of_eq rfl) (by decide)
  refine OGets.step st163 ?_
  refine OGets.step (fun _ => XS.iloadN X163.here hx rfl (hb hby dj42m149_4) rfl) ?_
  refine OGets.step (fun _ => XS.ifYes X163.here hx rfl (pc0 := 5) (pc' := 27) rfl (hb hby dj42m149_5) rfl ((if0 _ _).trans (feq (by decide : ¬ ((2 : Int32) = (0 : Int32)))).2) (by decide) (by decide)) ?_
  obtain ⟨T165, X165, e165, st165⟩ := getS2 X163 hx hZ hown (host := "") (Or.inl (hw _ (List.mem_of_getElem? (i := 39) rfl))) Via.refl e163 (S0.ext O0.2) (g := (mkF m 27 #[.val (.ref a), .val (.ref q), .val (.int (0 : Int32)), .val (.int (2 : Int32)), .val .null, .unset] [])) rfl (hb hby dj42m149_27)
  refine OGets.step st165 ?_
  refine OGets.step (fun _ => XS.ifNo X165.here hx rfl (hb hby dj42m149_30) rfl ((if0 _ _).trans (feq (hG : ¬ (G = (0 : Int32)))).1)) ?_
  refine OGets.step (fun _ => XS.aloadN X165.here hx rfl (hb hby dj42m149_33) rfl rfl) ?_
  refine OGets.step (fun _ => XS.iloadN X165.here hx rfl (hb hby dj42m149_34) rfl) ?_
  refine OGets.step (fun _ => XS.iloadN X165.here hx rfl (hb hby dj42m149_35) rfl) ?_
  have V167_ : OView Z _ h0 (((q, Sum.inr (.char, [(.int c0), (.int c1)])) : Addr × OObj) :: ((a, Sum.inl ("java/lang/String", ns_String, [.null, (.int (0 : Int32))])) : Addr × OObj) :: F) := (V0.bring 1 rfl)
  obtain ⟨_, _, ⟨T167, L167, k167, n167⟩, -, X167, ⟨Lc167, hQ167, l167, y167, z167⟩, st167⟩ := Jvm.LawKit.callS X165 hx (y := (⟨"java/lang/StringUTF16", "compress", "([CII)[B"⟩ : MethodName)) hown (mvT hZ (hw _ (List.mem_of_getElem? (i := 45) rfl))) (mvT hZ (hw _ (List.mem_of_getElem? (i := 46) rfl))) (mvT hZ (hw _ (List.mem_of_getElem? (i := 47) rfl))) (mvT hZ (hw _ (List.mem_of_getElem? (i := 48) rfl))) (by decide) (backOf (W := 0) (rm_c3_22 l Z a0 hw [] q c0 c1 h0 n0 _ Z0 SA SH SL u0 u1 V167_ O0) hZ (hw _ (List.mem_of_getElem? (i := 48) rfl)) (hw _ (List.mem_of_getElem? (i := 47) rfl)) (by decide) (by decide)) (g := (mkF m 36 #[.val (.ref a), .val (.ref q), .val (.int (0 : Int32)), .val (.int (2 : Int32)), .val .null, .unset] [(.int (2 : Int32)), (.int (0 : Int32)), (.ref q)])) rfl (by rw [hml]; rfl) (argsL := [(.ref q), (.int (0 : Int32)), (.int (2 : Int32))]) (rest := []) (lenOf pd_6 rfl) rfl (by show 2 * 0 + _ ≤ _; exact Nat.le_of_eq rfl) (hb hby dj42m149_36) (fun _ _ => ⟨rfl, e165, Nat.le_of_ble_eq_true rfl, Nat.le_of_ble_eq_true rfl⟩)
  dsimp only [Pt.U, Pt.locs, Pt.cells, Pt.slots] at X167 l167 y167 z167 st167 hQ167
  rw [l167, y167, z167] at X167
  obtain ⟨b167, rfl, N167q, V167, O167q⟩ := hQ167
  have N167 := Fr.app N0 N167q
  have V167v : OView Z n0 T167.heap (((b167, Sum.inr (.byte, [(.int (yb c0)), (.int (yb c1))])) : Addr × OObj) :: ((q, Sum.inr (.char, [(.int c0), (.int c1)])) : Addr × OObj) :: ((a, Sum.inl ("java/lang/String", ns_String, [.null, (.int (0 : Int32))])) : Addr × OObj) :: F) := V167
  have Z167 : n0 ≤ T167.heap.size := V167v.big 0 rfl
  refine OGets.step st167 ?_
  refine OGets.step (fun _ => XS.astore X167.here hx rfl (hb hby dj42m149_39) rfl rfl (l' := #[.val (.ref a), .val (.ref q), .val (.int (0 : Int32)), .val (.int (2 : Int32)), .val .null, .val (.ref b167)]) rfl) ?_
  refine OGets.step (fun _ => XS.aloadN X167.here hx rfl (hb hby dj42m149_41) rfl rfl) ?_
  refine OGets.step (fun _ => XS.aload X167.here hx rfl (hb hby dj42m149_42) rfl rfl) ?_
  refine OGets.step (fun _ => XS.iloadN X167.here hx rfl (hb hby dj42m149_44) rfl) ?_
  obtain ⟨_, _, ⟨T168, L168, k168, n168⟩, -, X168, ⟨Lc168, hQ168, l168, y168, z168⟩, st168⟩ := Jvm.LawKit.callS X167 hx (y := (⟨"java/lang/StringUTF16", "coderFromArrayLen", "([BI)B"⟩ : MethodName)) hown (mvT hZ (hw _ (List.mem_of_getElem? (i := 52) rfl))) (mvT hZ (hw _ (List.mem_of_getElem? (i := 53) rfl))) (mvT hZ (hw _ (List.mem_of_getElem? (i := 47) rfl))) (mvT hZ (hw _ (List.mem_of_getElem? (i := 54) rfl))) (by decide) (backOf (W := 1) (rm_cfl20 l Z a0 hw [] b167 (yb c0) (yb c1) T167.heap n0 _ Z167  V167v) hZ (hw _ (List.mem_of_getElem? (i := 54) rfl)) (hw _ (List.mem_of_getElem? (i := 47) rfl)) (by decide) (by decide)) (g := (mkF m 45 #[.val (.ref a), .val (.ref q), .val (.int (0 : Int32)), .val (.int (2 : Int32)), .val .null, .val (.ref b167)] [(.int (2 : Int32)), (.ref b167), (.ref a)])) rfl (by rw [hml]; rfl) (argsL := [(.ref b167), (.int (2 : Int32))]) (rest := [(.ref a)]) (lenOf pd_9 rfl) rfl (by show 2 * 0 + _ ≤ _; exact Nat.le_of_eq rfl) (hb hby dj42m149_45) (fun _ _ => ⟨rfl, rfl, Nat.le_of_ble_eq_true rfl, Nat.le_of_ble_eq_true rfl⟩)
  dsimp only [Pt.U, Pt.locs, Pt.cells, Pt.slots] at X168 l168 y168 z168 st168 hQ168
  rw [l168, y168, z168] at X168
  obtain ⟨rfl, rfl, e168⟩ := hQ168
  have N168 := Fr.app N167 (Fr.nil n0)
  refine OGets.step st168 ?_
  obtain ⟨T169, h169, X169, e169, W169, st169⟩ := putFN X168 hx hZ hown (hw _ (List.mem_of_getElem? (i := 27) rfl)) Via.refl e168 (V167v.fld 2 rfl 1 rfl rfl) (V167v.exa 2 rfl) (Or.inr ⟨(hw _ (List.mem_of_getElem? (i := 23) rfl)), rfl, hnm⟩) (hw _ (List.mem_of_getElem? (i := 7) rfl)) (ty := .byte) (v' := (.int (0 : Int32))) (by decide) rfl (by decide) (g := (mkF m 48 #[.val (.ref a), .val (.ref q), .val (.int (0 : Int32)), .val (.int (2 : Int32)), .val .null, .val (.ref b167)] [(.int (0 : Int32)), (.ref a)])) rfl rfl (hb hby dj42m149_48)
  have V169 : OView Z n0 h169 (((b167, Sum.inr (.byte, [(.int (yb c0)), (.int (yb c1))])) : Addr × OObj) :: ((q, Sum.inr (.char, [(.int c0), (.int c1)])) : Addr × OObj) :: ((a, Sum.inl ("java/lang/String", ns_String, [.null, (.int (0 : Int32))])) : Addr × OObj) :: F) := V167v.putF 2 rfl 1 rfl W169
  have N169 := Fr.snoc X169 N168 (V167v.old 2 rfl)
  have Z169 : n0 ≤ h169.size := by rw [W169.size]; exact Z167
  have O169 := O167q.wr W169 (V167v.old 2 rfl)
  refine OGets.step st169 ?_
  refine OGets.step (fun _ => XS.aloadN X169.here hx rfl (hb hby dj42m149_51) rfl rfl) ?_
  refine OGets.step (fun _ => XS.aload X169.here hx rfl (hb hby dj42m149_52) rfl rfl) ?_
  obtain ⟨T170, h170, X170, e170, W170, st170⟩ := putF X169 hx hZ hown (host := "") (Or.inl (hw _ (List.mem_of_getElem? (i := 26) rfl))) Via.refl e169 (V169.fld 2 rfl 0 rfl rfl) (V169.exa 2 rfl) (Or.inr ⟨(hw _ (List.mem_of_getElem? (i := 22) rfl)), rfl, hnm⟩) (hw _ (List.mem_of_getElem? (i := 7) rfl)) (ty := (.array .byte)) (by decide) rfl rfl (g := (mkF m 54 #[.val (.ref a), .val (.ref q), .val (.int (0 : Int32)), .val (.int (2 : Int32)), .val .null, .val (.ref b167)] [(.ref b167), (.ref a)])) rfl rfl (hb hby dj42m149_54)
  have V170 : OView Z n0 h170 (((b167, Sum.inr (.byte, [(.int (yb c0)), (.int (yb c1))])) : Addr × OObj) :: ((q, Sum.inr (.char, [(.int c0), (.int c1)])) : Addr × OObj) :: ((a, Sum.inl ("java/lang/String", ns_String, [(.ref b167), (.int (0 : Int32))])) : Addr × OObj) :: F) := V169.putF 2 rfl 0 rfl W170
  have N170 := Fr.snoc X170 N169 (V169.old 2 rfl)
  have Z170 : n0 ≤ h170.size := by rw [W170.size]; exact Z169
  have O170 := O169.wr W170 (V169.old 2 rfl)
  refine OGets.step st170 ?_
  refine OGets.retV X170 hx hlk Bd.returns (hb hby dj42m149_57) (Nat.le_of_ble_eq_true rfl) (Nat.le_of_ble_eq_true rfl) ?_
  have Vp171 : OView Z _ h170 (((a, Sum.inl ("java/lang/String", ns_String, [(.ref b167), (.int (0 : Int32))])) : Addr × OObj) :: ((b167, Sum.inr (.byte, [(.int (yb c0)), (.int (yb c1))])) : Addr × OObj) :: ((q, Sum.inr (.char, [(.int c0), (.int c1)])) : Addr × OObj) :: F) := (V170.bring 2 rfl)
  rw [e170]
  exact ⟨rfl, N170, b167, Vp171, O170⟩
theorem ef_i1_22 (m : MethodId) (x0 : Addr) (x1 : Addr) : entryFrame m #[(.ref x0), (.ref x1)] 2 = mkF m 0 #[.val (.ref x0), .val (.ref x1)] [] := by first | (simp [entryFrame, mkF, argsToLocals, Value.category]; done) | rfl
def Q_i1_22 (Z : State) (a : Addr) (q : Addr) (G : Int32) (c0 : Int32) (c1 : Int32) (h0 : Heap) (n0 : Nat) (F : List (Addr × OObj)) (v : Option Value) (h : Heap) (L : List Loc) : Prop := v = none ∧ Fr n0 L ∧ ∃ b : Addr, OView Z n0 h (((a, Sum.inl ("java/lang/String", ns_String, [(.ref b), (.int (0 : Int32))])) : Addr × OObj) :: ((b, Sum.inr (.byte, [(.int (yb c0)), (.int (yb c1))])) : Addr × OObj) :: ((q, Sum.inr (.char, [(.int c0), (.int c1)])) : Addr × OObj) :: F) ∧ Old Z n0 h
set_option maxRecDepth 65536 in
set_option maxHeartbeats 40000000 in
theorem rm_i1_22 (l : Launch) (Z : State) (a0 : Array Value) (hw : ∀ d ∈ tables_1, d.before a0 Z = true) (ws : List Jvm.Cond) (a : Addr) (q : Addr) (G : Int32) (c0 : Int32) (c1 : Int32) (h0 : Heap) (n0 : Nat) (F : List (Addr × OObj)) (Z0 : n0 ≤ h0.size) (S0 : Sta Z Z.heap "java/lang/String" "COMPACT_STRINGS" "Z" (.int G)) (hG : ¬ G = (0 : Int32)) (SA : Sta Z Z.heap "java/lang/StringUTF16" "$assertionsDisabled" "Z" (.int (1 : Int32))) (SH : Sta Z Z.heap "java/lang/StringUTF16" "HI_BYTE_SHIFT" "I" (.int (0 : Int32))) (SL : Sta Z Z.heap "java/lang/StringUTF16" "LO_BYTE_SHIFT" "I" (.int (8 : Int32))) (u0 : ¬ (255 : Int32) < c0) (u1 : ¬ (255 : Int32) < c1) (V0 : OView Z n0 h0 (((a, Sum.inl ("java/lang/String", ns_String, [.null, (.int (0 : Int32))])) : Addr × OObj) :: ((q, Sum.inr (.char, [(.int c0), (.int c1)])) : Addr × OObj) :: F)) (O0 : Old Z n0 h0) :
    MetFree l (⟨"java/lang/String", "<init>", "([C)V"⟩ : MethodName) (head1 (Jvm.Cond.code (⟨"java/lang/String", "<init>", "([C)V"⟩ : MethodName) jdk_42_method_3_code 2 none :: ws) ({ frames := 3, cells := 1, slots := 2, locals := 52 } : Room)) (fun a_ U => a_ = #[(.ref a), (.ref q)] ∧ Z.Warmed39 U.vm ∧ U.heap = h0) (fun _ _ _ _ _ => True) (fun _ U o U' => ∃ v L, o = .returned v ∧ Q_i1_22 Z a q G c0 c1 h0 n0 F v U'.heap L ∧ FrameEnd U o U' L ({ frames := 3, cells := 1, slots := 2, locals := 52 } : Room).cells ({ frames := 3, cells := 1, slots := 2, locals := 52 } : Room).slots) := by
  refine MetFree.of_bodySF (plainFor_of_name pn_8) hisR ?_
  intro p e s m args below meth c s₁ Bd hml0 hP hK
  obtain ⟨rfl, hZ, hh⟩ := hP
  have hx := Bd.exec
  have hby := Bd.bytes
  have hlk : meth.locks = false := Bd.notSynchronized
  have hml : c.maxLocals = 2 := hml0
  have hown : s.vm.findClass "java/lang/String" = some m.cls := findClass_of_methodNamed Bd.named
  have hnm := (name_of_methodNamed Bd.named Bd.method).1
  have X0 : Stand p l e ({ frames := 3, cells := 1, slots := 2, locals := 52 } : Room) s m #[(.ref a), (.ref q)] below meth c s₁ [] 0 0 := Stand.of_body Bd
  have e0 : s₁.heap = h0 := by rw [← hh, Bd.state]; rfl
  have N0 := Fr.nil n0
  show OGets p e below (OLeaves s (Q_i1_22 Z a q G c0 c1 h0 n0 F ) ({ frames := 3, cells := 1, slots := 2, locals := 52 } : Room).cells ({ frames := 3, cells := 1, slots := 2, locals := 52 } : Room).slots) _
  refine OGets.enter (ef_i1_22 m a q) ?_
  show OGets p e below _ (s₁.setTop (mkF m 0 #[.val (.ref a), .val (.ref q)] []))
  refine OGets.step (fun _ => XS.aloadN X0.here hx rfl (hb hby dj42m3_0) rfl rfl) ?_
  refine OGets.step (fun _ => XS.aloadN X0.here hx rfl (hb hby dj42m3_1) rfl rfl) ?_
  refine OGets.step (fun _ => XS.iconst X0.here hx rfl (hb hby dj42m3_2)) ?_
  refine OGets.step (fun _ => XS.aloadN X0.here hx rfl (hb hby dj42m3_3) rfl rfl) ?_
  obtain ⟨cl172, Ar172, S172⟩ := V0.arr 1 rfl
  have ln172 : cl172.slots.size.toInt32 = (2 : Int32) := by rw [own_len S172]; rfl
  refine OGets.step (U' := s₁.setTop (mkF m 5 #[.val (.ref a), .val (.ref q)] [(.int (2 : Int32)), (.int (0 : Int32)), (.ref q), (.ref a)])) (fun t kt => ?_) ?_
  · refine X0.arraylength hx (by rw [e0]; exact Ar172.1) (State.isArrayOf_alike hZ.alike Ar172.2.1) (g := (mkF m 4 #[.val (.ref a), .val (.ref q)] [(.ref q), (.int (0 : Int32)), (.ref q), (.ref a)])) rfl rfl (hb hby dj42m3_4) _ ?_
    rw [ln172]; exact kt
  refine OGets.step (fun _ => XS.aconstNull X0.here hx rfl (hb hby dj42m3_5)) ?_
  show OGets p e below _ (s₁.setTop (mkF m 6 #[.val (.ref a), .val (.ref q)] [.null, (.int (2 : Int32)), (.int (0 : Int32)), (.ref q), (.ref a)]))
  obtain ⟨_, _, ⟨T173, L173, k173, n173⟩, -, X173, ⟨Lc173, hQ173, l173, y173, z173⟩, st173⟩ := X0.specialBack hx (y := (⟨"java/lang/String", "<init>", "([CIILjava/lang/Void;)V"⟩ : MethodName)) rfl hown (mvT hZ (hw _ (List.mem_of_getElem? (i := 13) rfl))) (mvT hZ (hw _ (List.mem_of_getElem? (i := 14) rfl))) (mvT hZ (hw _ (List.mem_of_getElem? (i := 16) rfl))) (by decide) (backOf (W := 0) (rm_i4_22 l Z a0 hw [] a q G c0 c1 h0 n0 _ Z0 S0 hG SA SH SL u0 u1 V0 O0) hZ (hw _ (List.mem_of_getElem? (i := 16) rfl)) (hw _ (List.mem_of_getElem? (i := 8) rfl)) (by decide) (by decide)) (g := (mkF m 6 #[.val (.ref a), .val (.ref q)] [.null, (.int (2 : Int32)), (.int (0 : Int32)), (.ref q), (.ref a)])) rfl (by rw [hml]; rfl) (Steps.refl _) (a := a) (argsL := [(.ref q), (.int (0 : Int32)), (.int (2 : Int32)), .null]) (rest := []) (lenOf pd_10 rfl) rfl (by show 2 * 0 + _ ≤ _; exact Nat.le_of_eq rfl) (hb hby dj42m3_6) (fun _ _ => ⟨rfl, e0, Nat.le_of_ble_eq_true rfl, Nat.le_of_ble_eq_true rfl⟩)
  dsimp only [Pt.U, Pt.locs, Pt.cells, Pt.slots] at X173 l173 y173 z173 st173 hQ173
  rw [l173, y173, z173] at X173
  obtain ⟨rfl, N173q, b173, V173, O173q⟩ := hQ173
  have N173 := Fr.app N0 N173q
  have V173v : OView Z n0 T173.heap (((a, Sum.inl ("java/lang/String", ns_String, [(.ref b173), (.int (0 : Int32))])) : Addr × OObj) :: ((b173, Sum.inr (.byte, [(.int (yb c0)), (.int (yb c1))])) : Addr × OObj) :: ((q, Sum.inr (.char, [(.int c0), (.int c1)])) : Addr × OObj) :: F) := V173
  have Z173 : n0 ≤ T173.heap.size := V173v.big 0 rfl
  refine OGets.after st173 ?_
  refine OGets.retV X173 hx hlk Bd.returns (hb hby dj42m3_9) (Nat.le_of_ble_eq_true rfl) (Nat.le_of_ble_eq_true rfl) ?_
  exact ⟨rfl, N173, b173, V173v, O173q⟩
theorem ef_nbl3 (m : MethodId) (x0 : Int32) : entryFrame m #[(.int x0)] 1 = mkF m 0 #[.val (.int x0)] [] := by first | (simp [entryFrame, mkF, argsToLocals, Value.category]; done) | rfl
def Q_nbl3 (Z : State)  (h0 : Heap) (n0 : Nat) (v : Option Value) (h : Heap) (L : List Loc) : Prop := v = some (.int (6 : Int32)) ∧ L = [] ∧ h = h0
set_option maxRecDepth 65536 in
set_option maxHeartbeats 40000000 in
theorem rm_nbl3 (l : Launch) (Z : State) (a0 : Array Value) (hw : ∀ d ∈ tables_1, d.before a0 Z = true) (ws : List Jvm.Cond)  (h0 : Heap) (n0 : Nat) (Z0 : n0 ≤ h0.size) :
    MetFree l (⟨"java/lang/StringUTF16", "newBytesLength", "(I)I"⟩ : MethodName) (head1 (Jvm.Cond.code (⟨"java/lang/StringUTF16", "newBytesLength", "(I)I"⟩ : MethodName) jdk_52_method_3_code 1 (some .int) :: ws) ({ frames := 0, cells := 0, slots := 0, locals := 0 } : Room)) (fun a_ U => a_ = #[(.int (3 : Int32))] ∧ Z.Warmed39 U.vm ∧ U.heap = h0) (fun _ _ _ _ _ => True) (fun _ U o U' => ∃ v L, o = .returned v ∧ Q_nbl3 Z  h0 n0 v U'.heap L ∧ FrameEnd U o U' L ({ frames := 0, cells := 0, slots := 0, locals := 0 } : Room).cells ({ frames := 0, cells := 0, slots := 0, locals := 0 } : Room).slots) := by
  refine MetFree.of_bodySF (plainFor_of_name pn_1) hisR ?_
  intro p e s m args below meth c s₁ Bd hml0 hP hK
  obtain ⟨rfl, hZ, hh⟩ := hP
  have hx := Bd.exec
  have hby := Bd.bytes
  have hlk : meth.locks = false := Bd.notSynchronized
  have hml : c.maxLocals = 1 := hml0
  have hown : s.vm.findClass "java/lang/StringUTF16" = some m.cls := findClass_of_methodNamed Bd.named
  have hnm := (name_of_methodNamed Bd.named Bd.method).1
  have X0 : Stand p l e ({ frames := 0, cells := 0, slots := 0, locals := 0 } : Room) s m #[(.int (3 : Int32))] below meth c s₁ [] 0 0 := Stand.of_body Bd
  have e0 : s₁.heap = h0 := by rw [← hh, Bd.state]; rfl
  have N0 := Fr.nil n0
  show OGets p e below (OLeaves s (Q_nbl3 Z  h0 n0 ) ({ frames := 0, cells := 0, slots := 0, locals := 0 } : Room).cells ({ frames := 0, cells := 0, slots := 0, locals := 0 } : Room).slots) _
  refine OGets.enter (ef_nbl3 m (3 : Int32)) ?_
  show OGets p e below _ (s₁.setTop (mkF m 0 #[.val (.int (3 : Int32))] []))
  refine OGets.step (fun _ => XS.iloadN X0.here hx rfl (hb hby dj52m3_0) rfl) ?_
  refine OGets.step (fun _ => XS.ifYes X0.here hx rfl (pc0 := 1) (pc' := 12) rfl (hb hby dj52m3_1) rfl ((if0 _ _).trans (flt (by decide : ¬ ((3 : Int32) < (0 : Int32)))).2.1) (by decide) (by decide)) ?_
  refine OGets.step (fun _ => XS.iloadN X0.here hx rfl (hb hby dj52m3_12) rfl) ?_
  refine OGets.step (fun _ => X0.ldcInt hx hown (mvT hZ (hw _ (List.mem_of_getElem? (i := 64) rfl))) (g := (mkF m 13 #[.val (.int (3 : Int32))] [(.int (3 : Int32))])) rfl (hb hby dj52m3_13) _) ?_
  refine OGets.step (fun _ => XS.icmpYes X0.here hx rfl (pc0 := 15) (pc' := 55) rfl (hb hby dj52m3_15) rfl (tlt (by decide : (3 : Int32) < (1073741823 : Int32))).1 (by decide) (by decide)) ?_
  refine OGets.step (fun _ => XS.iloadN X0.here hx rfl (hb hby dj52m3_55) rfl) ?_
  show OGets p e below _ (s₁.setTop (mkF m 56 #[.val (.int (3 : Int32))] [(.int (3 : Int32))]))
  refine OGets.step (fun _ => XS.iconst X0.here hx rfl (hb hby dj52m3_56)) ?_
  refine OGets.step (fun _ => XS.ishl X0.here hx rfl (hb hby dj52m3_57) rfl) ?_
  show OGets p e below _ (s₁.setTop (mkF m 58 #[.val (.int (3 : Int32))] [(.int ((3 : Int32) <<< ((1 : Int32) &&& 31)))]))
  rw [show ((3 : Int32) <<< ((1 : Int32) &&& 31)) = (6 : Int32) from by decide]
  show OGets p e below _ (s₁.setTop (mkF m 58 #[.val (.int (3 : Int32))] [(.int (6 : Int32))]))
  refine OGets.retI X0 hx hlk Bd.returns (hb hby dj52m3_58) (Nat.le_of_ble_eq_true rfl) (Nat.le_of_ble_eq_true rfl) ?_
  exact ⟨congrArg (fun z => some (Value.int z)) (show _ = (6 : Int32) from by decide), rfl, e0⟩
theorem ef_nbf3 (m : MethodId) (x0 : Int32) : entryFrame m #[(.int x0)] 1 = mkF m 0 #[.val (.int x0)] [] := by first | (simp [entryFrame, mkF, argsToLocals, Value.category]; done) | rfl
def Q_nbf3 (Z : State)  (h0 : Heap) (n0 : Nat) (F : List (Addr × OObj)) (v : Option Value) (h : Heap) (L : List Loc) : Prop := ∃ b : Addr, v = some (.ref b) ∧ Fr n0 L ∧ OView Z n0 h (((b, Sum.inr (.byte, [(.int (0 : Int32)), (.int (0 : Int32)), (.int (0 : Int32)), (.int (0 : Int32)), (.int (0 : Int32)), (.int (0 : Int32))])) : Addr × OObj) :: F) ∧ Old Z n0 h
set_option maxRecDepth 65536 in
set_option maxHeartbeats 40000000 in
theorem rm_nbf3 (l : Launch) (Z : State) (a0 : Array Value) (hw : ∀ d ∈ tables_1, d.before a0 Z = true) (ws : List Jvm.Cond)  (h0 : Heap) (n0 : Nat) (F : List (Addr × OObj)) (Z0 : n0 ≤ h0.size) (V0 : OView Z n0 h0 (F)) (O0 : Old Z n0 h0) :
    MetFree l (⟨"java/lang/StringUTF16", "newBytesFor", "(I)[B"⟩ : MethodName) (head1 (Jvm.Cond.code (⟨"java/lang/StringUTF16", "newBytesFor", "(I)[B"⟩ : MethodName) jdk_52_method_2_code 1 (some (.array .byte)) :: ws) ({ frames := 1, cells := 1, slots := 6, locals := 12 } : Room)) (fun a_ U => a_ = #[(.int (3 : Int32))] ∧ Z.Warmed39 U.vm ∧ U.heap = h0) (fun _ _ _ _ _ => True) (fun _ U o U' => ∃ v L, o = .returned v ∧ Q_nbf3 Z  h0 n0 F v U'.heap L ∧ FrameEnd U o U' L ({ frames := 1, cells := 1, slots := 6, locals := 12 } : Room).cells ({ frames := 1, cells := 1, slots := 6, locals := 12 } : Room).slots) := by
  refine MetFree.of_bodySF (plainFor_of_name pn_1) hisR ?_
  intro p e s m args below meth c s₁ Bd hml0 hP hK
  obtain ⟨rfl, hZ, hh⟩ := hP
  have hx := Bd.exec
  have hby := Bd.bytes
  have hlk : meth.locks = false := Bd.notSynchronized
  have hml : c.maxLocals = 1 := hml0
  have hown : s.vm.findClass "java/lang/StringUTF16" = some m.cls := findClass_of_methodNamed Bd.named
  have hnm := (name_of_methodNamed Bd.named Bd.method).1
  have X0 : Stand p l e ({ frames := 1, cells := 1, slots := 6, locals := 12 } : Room) s m #[(.int (3 : Int32))] below meth c s₁ [] 0 0 := Stand.of_body Bd
  have e0 : s₁.heap = h0 := by rw [← hh, Bd.state]; rfl
  have N0 := Fr.nil n0
  show OGets p e below (OLeaves s (Q_nbf3 Z  h0 n0 F ) ({ frames := 1, cells := 1, slots := 6, locals := 12 } : Room).cells ({ frames := 1, cells := 1, slots := 6, locals := 12 } : Room).slots) _
  refine OGets.enter (ef_nbf3 m (3 : Int32)) ?_
  show OGets p e below _ (s₁.setTop (mkF m 0 #[.val (.int (3 : Int32))] []))
  refine OGets.step (fun _ => XS.iloadN X0.here hx rfl (hb hby dj52m2_0) rfl) ?_
  obtain ⟨_, _, ⟨T176, L176, k176, n176⟩, -, X176, ⟨Lc176, hQ176, l176, y176, z176⟩, st176⟩ := Jvm.LawKit.callS X0 hx (y := (⟨"java/lang/StringUTF16", "newBytesLength", "(I)I"⟩ : MethodName)) hown (mvT hZ (hw _ (List.mem_of_getElem? (i := 61) rfl))) (mvT hZ (hw _ (List.mem_of_getElem? (i := 62) rfl))) (mvT hZ (hw _ (List.mem_of_getElem? (i := 47) rfl))) (mvT hZ (hw _ (List.mem_of_getElem? (i := 63) rfl))) (by decide) (backOf (W := 0) (rm_nbl3 l Z a0 hw []  h0 n0  Z0 ) hZ (hw _ (List.mem_of_getElem? (i := 63) rfl)) (hw _ (List.mem_of_getElem? (i := 47) rfl)) (by decide) (by decide)) (g := (mkF m 1 #[.val (.int (3 : Int32))] [(.int (3 : Int32))])) rfl (by rw [hml]; rfl) (argsL := [(.int (3 : Int32))]) (rest := []) (lenOf pd_2 rfl) rfl (by show 2 * 0 + _ ≤ _; exact Nat.le_of_eq rfl) (hb hby dj52m2_1) (fun _ _ => ⟨rfl, e0, Nat.le_of_ble_eq_true rfl, Nat.le_of_ble_eq_true rfl⟩)
  dsimp only [Pt.U, Pt.locs, Pt.cells, Pt.slots] at X176 l176 y176 z176 st176 hQ176
  rw [l176, y176, z176] at X176
  obtain ⟨rfl, rfl, e176⟩ := hQ176
  have N176 := Fr.app N0 (Fr.nil n0)
  refine OGets.step st176 ?_
  obtain ⟨T177, h177, k177, X177, e177, E177, A177, st177⟩ := newP X176 hx hZ (hw _ (List.mem_of_getElem? (i := 21) rfl)) e176 (g := (mkF m 4 #[.val (.int (3 : Int32))] [(.int (6 : Int32))])) rfl (hb hby dj52m2_4) rfl (by decide) (cap := 6) (by decide) (by decide) (by decide) (by decide)
  have V177' := V0.newArr Z0 E177 A177 6 rfl
  have Z177 : n0 ≤ h177.size := Nat.le_trans Z0 E177.1
  obtain ⟨b177, g177⟩ : ∃ z, z = h0.size := ⟨_, rfl⟩
  rw [← g177] at V177' st177
  have V177 : OView Z n0 h177 (((b177, Sum.inr (.byte, [(.int (0 : Int32)), (.int (0 : Int32)), (.int (0 : Int32)), (.int (0 : Int32)), (.int (0 : Int32)), (.int (0 : Int32))])) : Addr × OObj) :: F) := V177'
  have O177 := O0.ext E177
  refine OGets.step st177 ?_
  refine OGets.retA X177 hx hlk (t := (.array .byte)) Bd.returns rfl rfl rfl (hb hby dj52m2_6) (Nat.le_of_ble_eq_true rfl) (Nat.le_of_ble_eq_true rfl) ?_
  rw [e177]
  exact ⟨b177, rfl, N176, V177, O177⟩
theorem ef_pch30 (m : MethodId) (x0 : Addr) (x1 : Int32) (x2 : Int32) : entryFrame m #[(.ref x0), (.int x1), (.int x2)] 3 = mkF m 0 #[.val (.ref x0), .val (.int x1), .val (.int x2)] [] := by first | (simp [entryFrame, mkF, argsToLocals, Value.category]; done) | rfl
def Q_pch30 (Z : State) (b : Addr) (x : Int32) (h0 : Heap) (n0 : Nat) (F : List (Addr × OObj)) (v : Option Value) (h : Heap) (L : List Loc) : Prop := v = none ∧ Fr n0 L ∧ OView Z n0 h (((b, Sum.inr (.byte, [(.int (hb' x)), (.int (lb' x)), (.int (0 : Int32)), (.int (0 : Int32)), (.int (0 : Int32)), (.int (0 : Int32))])) : Addr × OObj) :: F) ∧ Old Z n0 h
set_option maxRecDepth 65536 in
set_option maxHeartbeats 40000000 in
theorem rm_pch30 (l : Launch) (Z : State) (a0 : Array Value) (hw : ∀ d ∈ tables_1, d.before a0 Z = true) (ws : List Jvm.Cond) (b : Addr) (x : Int32) (h0 : Heap) (n0 : Nat) (F : List (Addr × OObj)) (Z0 : n0 ≤ h0.size) (SA : Sta Z Z.heap "java/lang/StringUTF16" "$assertionsDisabled" "Z" (.int (1 : Int32))) (SH : Sta Z Z.heap "java/lang/StringUTF16" "HI_BYTE_SHIFT" "I" (.int (0 : Int32))) (SL : Sta Z Z.heap "java/lang/StringUTF16" "LO_BYTE_SHIFT" "I" (.int (8 : Int32))) (V0 : OView Z n0 h0 (((b, Sum.inr (.byte, [(.int (0 : Int32)), (.int (0 : Int32)), (.int (0 : Int32)), (.int (0 : Int32)), (.int (0 : Int32)), (.int (0 : Int32))])) : Addr × OObj) :: F)) (O0 : Old Z n0 h0) :
    MetFree l (⟨"java/lang/StringUTF16", "putChar", "([BII)V"⟩ : MethodName) (head1 (Jvm.Cond.code (⟨"java/lang/StringUTF16", "putChar", "([BII)V"⟩ : MethodName) jdk_52_method_4_code 3 none :: ws) ({ frames := 0, cells := 0, slots := 0, locals := 0 } : Room)) (fun a_ U => a_ = #[(.ref b), (.int (0 : Int32)), (.int x)] ∧ Z.Warmed39 U.vm ∧ U.heap = h0) (fun _ _ _ _ _ => True) (fun _ U o U' => ∃ v L, o = .returned v ∧ Q_pch30 Z b x h0 n0 F v U'.heap L ∧ FrameEnd U o U' L ({ frames := 0, cells := 0, slots := 0, locals := 0 } : Room).cells ({ frames := 0, cells := 0, slots := 0, locals := 0 } : Room).slots) := by
  refine MetFree.of_bodySF (plainFor_of_name pn_1) hisR ?_
  intro p e s m args below meth c s₁ Bd hml0 hP hK
  obtain ⟨rfl, hZ, hh⟩ := hP
  have hx := Bd.exec
  have hby := Bd.bytes
  have hlk : meth.locks = false := Bd.notSynchronized
  have hml : c.maxLocals = 3 := hml0
  have hown : s.vm.findClass "java/lang/StringUTF16" = some m.cls := findClass_of_methodNamed Bd.named
  have hnm := (name_of_methodNamed Bd.named Bd.method).1
  have X0 : Stand p l e ({ frames := 0, cells := 0, slots := 0, locals := 0 } : Room) s m #[(.ref b), (.int (0 : Int32)), (.int x)] below meth c s₁ [] 0 0 := Stand.of_body Bd
  have e0 : s₁.heap = h0 := by rw [← hh, Bd.state]; rfl
  have N0 := Fr.nil n0
  show OGets p e below (OLeaves s (Q_pch30 Z b x h0 n0 F ) ({ frames := 0, cells := 0, slots := 0, locals := 0 } : Room).cells ({ frames := 0, cells := 0, slots := 0, locals := 0 } : Room).slots) _
  refine OGets.enter (ef_pch30 m b (0 : Int32) x) ?_
  show OGets p e below _ (s₁.setTop (mkF m 0 #[.val (.ref b), .val (.int (0 : Int32)), .val (.int x)] []))
  obtain ⟨T178, X178, e178, st178⟩ := getS2 X0 hx hZ hown (host := "") (Or.inl (hw _ (List.mem_of_getElem? (i := 68) rfl))) Via.refl e0 (SA.ext O0.2) (g := (mkF m 0 #[.val (.ref b), .val (.int (0 : Int32)), .val (.int x)] [])) rfl (hb hby dj52m4_0)
  refine OGets.step st178 ?_
  refine OGets.step (fun _ => XS.ifYes X178.here hx rfl (pc0 := 3) (pc' := 28) rfl (hb hby dj52m4_3) rfl ((if0 _ _).trans (feq (by decide : ¬ ((1 : Int32) = (0 : Int32)))).2) (by decide) (by decide)) ?_
  refine OGets.step (fun _ => XS.iloadN X178.here hx rfl (hb hby dj52m4_28) rfl) ?_
  refine OGets.step (fun _ => XS.iconst X178.here hx rfl (hb hby dj52m4_29)) ?_
  refine OGets.step (fun _ => XS.ishl X178.here hx rfl (hb hby dj52m4_30) rfl) ?_
  show OGets p e below _ (T178.setTop (mkF m 31 #[.val (.ref b), .val (.int (0 : Int32)), .val (.int x)] [(.int ((0 : Int32) <<< ((1 : Int32) &&& 31)))]))
  rw [show ((0 : Int32) <<< ((1 : Int32) &&& 31)) = (0 : Int32) from by decide]
  show OGets p e below _ (T178.setTop (mkF m 31 #[.val (.ref b), .val (.int (0 : Int32)), .val (.int x)] [(.int (0 : Int32))]))
  refine OGets.step (fun _ => XS.istoreN X178.here hx rfl (hb hby dj52m4_31) rfl (l' := #[.val (.ref b), .val (.int (0 : Int32)), .val (.int x)]) rfl) ?_
  refine OGets.step (fun _ => XS.aloadN X178.here hx rfl (hb hby dj52m4_32) rfl rfl) ?_
  refine OGets.step (fun _ => XS.iloadN X178.here hx rfl (hb hby dj52m4_33) rfl) ?_
  refine OGets.step (fun _ => XS.iinc X178.here hx rfl (hb hby dj52m4_34) rfl (l' := #[.val (.ref b), .val (.int (1 : Int32)), .val (.int x)]) rfl) ?_
  refine OGets.step (fun _ => XS.iloadN X178.here hx rfl (hb hby dj52m4_37) rfl) ?_
  obtain ⟨T180, X180, e180, st180⟩ := getS2 X178 hx hZ hown (host := "") (Or.inl (hw _ (List.mem_of_getElem? (i := 69) rfl))) Via.refl e178 (SH.ext O0.2) (g := (mkF m 38 #[.val (.ref b), .val (.int (1 : Int32)), .val (.int x)] [(.int x), (.int (0 : Int32)), (.ref b)])) rfl (hb hby dj52m4_38)
  refine OGets.step st180 ?_
  refine OGets.step (fun _ => XS.ishr X180.here hx rfl (hb hby dj52m4_41) rfl) ?_
  refine OGets.step (fun _ => XS.i2b X180.here hx rfl (hb hby dj52m4_42) rfl) ?_
  obtain ⟨cl181, Ar181, S181⟩ := V0.arr 0 rfl
  obtain ⟨T181, h181, X181, e181, W181', st181⟩ := stB X180 hx hZ e180 Ar181 (j := (0 : Int32)) (own_inb S181 0 (by decide) (Nat.le_of_ble_eq_true rfl)) (g := (mkF m 43 #[.val (.ref b), .val (.int (1 : Int32)), .val (.int x)] [(.int ((x >>> ((0 : Int32) &&& 31)).toInt8.toInt32)), (.int (0 : Int32)), (.ref b)])) rfl rfl (hb hby dj52m4_43)
  have W181 := own_wr (vs := []) 0 (by decide) W181'
  have V181 : OView Z n0 h181 (((b, Sum.inr (.byte, [(.int (hb' x)), (.int (0 : Int32)), (.int (0 : Int32)), (.int (0 : Int32)), (.int (0 : Int32)), (.int (0 : Int32))])) : Addr × OObj) :: F) := V0.putA 0 rfl W181
  have N181 := Fr.snoc X181 N0 (V0.old 0 rfl)
  have Z181 : n0 ≤ h181.size := by rw [W181.size]; exact Z0
  have O181 := O0.wr W181 (V0.old 0 rfl)
  refine OGets.step st181 ?_
  refine OGets.step (fun _ => XS.aloadN X181.here hx rfl (hb hby dj52m4_44) rfl rfl) ?_
  refine OGets.step (fun _ => XS.iloadN X181.here hx rfl (hb hby dj52m4_45) rfl) ?_
  refine OGets.step (fun _ => XS.iloadN X181.here hx rfl (hb hby dj52m4_46) rfl) ?_
  obtain ⟨T182, X182, e182, st182⟩ := getS2 X181 hx hZ hown (host := "") (Or.inl (hw _ (List.mem_of_getElem? (i := 70) rfl))) Via.refl e181 (SL.ext O181.2) (g := (mkF m 47 #[.val (.ref b), .val (.int (1 : Int32)), .val (.int x)] [(.int x), (.int (1 : Int32)), (.ref b)])) rfl (hb hby dj52m4_47)
  refine OGets.step st182 ?_
  refine OGets.step (fun _ => XS.ishr X182.here hx rfl (hb hby dj52m4_50) rfl) ?_
  refine OGets.step (fun _ => XS.i2b X182.here hx rfl (hb hby dj52m4_51) rfl) ?_
  obtain ⟨cl183, Ar183, S183⟩ := V181.arr 0 rfl
  obtain ⟨T183, h183, X183, e183, W183', st183⟩ := stB X182 hx hZ e182 Ar183 (j := (1 : Int32)) (own_inb S183 1 (by decide) (Nat.le_of_ble_eq_true rfl)) (g := (mkF m 52 #[.val (.ref b), .val (.int (1 : Int32)), .val (.int x)] [(.int ((x >>> ((8 : Int32) &&& 31)).toInt8.toInt32)), (.int (1 : Int32)), (.ref b)])) rfl rfl (hb hby dj52m4_52)
  have W183 := own_wr (vs := []) 1 (by decide) W183'
  have V183 : OView Z n0 h183 (((b, Sum.inr (.byte, [(.int (hb' x)), (.int (lb' x)), (.int (0 : Int32)), (.int (0 : Int32)), (.int (0 : Int32)), (.int (0 : Int32))])) : Addr × OObj) :: F) := V181.putA 0 rfl W183
  have N183 := Fr.snoc X183 N181 (V181.old 0 rfl)
  have Z183 : n0 ≤ h183.size := by rw [W183.size]; exact Z181
  have O183 := O181.wr W183 (V181.old 0 rfl)
  refine OGets.step st183 ?_
  refine OGets.retV X183 hx hlk Bd.returns (hb hby dj52m4_53) (Nat.le_of_ble_eq_true rfl) (Nat.le_of_ble_eq_true rfl) ?_
  rw [e183]
  exact ⟨rfl, N183, V183, O183⟩
theorem ef_pch31 (m : MethodId) (x0 : Addr) (x1 : Int32) (x2 : Int32) : entryFrame m #[(.ref x0), (.int x1), (.int x2)] 3 = mkF m 0 #[.val (.ref x0), .val (.int x1), .val (.int x2)] [] := by first | (simp [entryFrame, mkF, argsToLocals, Value.category]; done) | rfl
def Q_pch31 (Z : State) (b : Addr) (x : Int32) (y0 : Int32) (y1 : Int32) (h0 : Heap) (n0 : Nat) (F : List (Addr × OObj)) (v : Option Value) (h : Heap) (L : List Loc) : Prop := v = none ∧ Fr n0 L ∧ OView Z n0 h (((b, Sum.inr (.byte, [(.int y0), (.int y1), (.int (hb' x)), (.int (lb' x)), (.int (0 : Int32)), (.int (0 : Int32))])) : Addr × OObj) :: F) ∧ Old Z n0 h
set_option maxRecDepth 65536 in
set_option maxHeartbeats 40000000 in
theorem rm_pch31 (l : Launch) (Z : State) (a0 : Array Value) (hw : ∀ d ∈ tables_1, d.before a0 Z = true) (ws : List Jvm.Cond) (b : Addr) (x : Int32) (y0 : Int32) (y1 : Int32) (h0 : Heap) (n0 : Nat) (F : List (Addr × OObj)) (Z0 : n0 ≤ h0.size) (SA : Sta Z Z.heap "java/lang/StringUTF16" "$assertionsDisabled" "Z" (.int (1 : Int32))) (SH : Sta Z Z.heap "java/lang/StringUTF16" "HI_BYTE_SHIFT" "I" (.int (0 : Int32))) (SL : Sta Z Z.heap "java/lang/StringUTF16" "LO_BYTE_SHIFT" "I" (.int (8 : Int32))) (V0 : OView Z n0 h0 (((b, Sum.inr (.byte, [(.int y0), (.int y1), (.int (0 : Int32)), (.int (0 : Int32)), (.int (0 : Int32)), (.int (0 : Int32))])) : Addr × OObj) :: F)) (O0 : Old Z n0 h0) :
    MetFree l (⟨"java/lang/StringUTF16", "putChar", "([BII)V"⟩ : MethodName) (head1 (Jvm.Cond.code (⟨"java/lang/StringUTF16", "putChar", "([BII)V"⟩ : MethodName) jdk_52_method_4_code 3 none :: ws) ({ frames := 0, cells := 0, slots := 0, locals := 0 } : Room)) (fun a_ U => a_ = #[(.ref b), (.int (1 : Int32)), (.int x)] ∧ Z.Warmed39 U.vm ∧ U.heap = h0) (fun _ _ _ _ _ => True) (fun _ U o U' => ∃ v L, o = .returned v ∧ Q_pch31 Z b x y0 y1 h0 n0 F v U'.heap L ∧ FrameEnd U o U' L ({ frames := 0, cells := 0, slots := 0, locals := 0 } : Room).cells ({ frames := 0, cells := 0, slots := 0, locals := 0 } : Room).slots) := by
  refine MetFree.of_bodySF (plainFor_of_name pn_1) hisR ?_
  intro p e s m args below meth c s₁ Bd hml0 hP hK
  obtain ⟨rfl, hZ, hh⟩ := hP
  have hx := Bd.exec
  have hby := Bd.bytes
  have hlk : meth.locks = false := Bd.notSynchronized
  have hml : c.maxLocals = 3 := hml0
  have hown : s.vm.findClass "java/lang/StringUTF16" = some m.cls := findClass_of_methodNamed Bd.named
  have hnm := (name_of_methodNamed Bd.named Bd.method).1
  have X0 : Stand p l e ({ frames := 0, cells := 0, slots := 0, locals := 0 } : Room) s m #[(.ref b), (.int (1 : Int32)), (.int x)] below meth c s₁ [] 0 0 := Stand.of_body Bd
  have e0 : s₁.heap = h0 := by rw [← hh, Bd.state]; rfl
  have N0 := Fr.nil n0
  show OGets p e below (OLeaves s (Q_pch31 Z b x y0 y1 h0 n0 F ) ({ frames := 0, cells := 0, slots := 0, locals := 0 } : Room).cells ({ frames := 0, cells := 0, slots := 0, locals := 0 } : Room).slots) _
  refine OGets.enter (ef_pch31 m b (1 : Int32) x) ?_
  show OGets p e below _ (s₁.setTop (mkF m 0 #[.val (.ref b), .val (.int (1 : Int32)), .val (.int x)] []))
  obtain ⟨T184, X184, e184, st184⟩ := getS2 X0 hx hZ hown (host := "") (Or.inl (hw _ (List.mem_of_getElem? (i := 68) rfl))) Via.refl e0 (SA.ext O0.2) (g := (mkF m 0 #[.val (.ref b), .val (.int (1 : Int32)), .val (.int x)] [])) rfl (hb hby dj52m4_0)
  refine OGets.step st184 ?_
  refine OGets.step (fun _ => XS.ifYes X184.here hx rfl (pc0 := 3) (pc' := 28) rfl (hb hby dj52m4_3) rfl ((if0 _ _).trans (feq (by decide : ¬ ((1 : Int32) = (0 : Int32)))).2) (by decide) (by decide)) ?_
  refine OGets.step (fun _ => XS.iloadN X184.here hx rfl (hb hby dj52m4_28) rfl) ?_
  refine OGets.step (fun _ => XS.iconst X184.here hx rfl (hb hby dj52m4_29)) ?_
  refine OGets.step (fun _ => XS.ishl X184.here hx rfl (hb hby dj52m4_30) rfl) ?_
  show OGets p e below _ (T184.setTop (mkF m 31 #[.val (.ref b), .val (.int (1 : Int32)), .val (.int x)] [(.int ((1 : Int32) <<< ((1 : Int32) &&& 31)))]))
  rw [show ((1 : Int32) <<< ((1 : Int32) &&& 31)) = (2 : Int32) from by decide]
  show OGets p e below _ (T184.setTop (mkF m 31 #[.val (.ref b), .val (.int (1 : Int32)), .val (.int x)] [(.int (2 : Int32))]))
  refine OGets.step (fun _ => XS.istoreN X184.here hx rfl (hb hby dj52m4_31) rfl (l' := #[.val (.ref b), .val (.int (2 : Int32)), .val (.int x)]) rfl) ?_
  refine OGets.step (fun _ => XS.aloadN X184.here hx rfl (hb hby dj52m4_32) rfl rfl) ?_
  refine OGets.step (fun _ => XS.iloadN X184.here hx rfl (hb hby dj52m4_33) rfl) ?_
  refine OGets.step (fun _ => XS.iinc X184.here hx rfl (hb hby dj52m4_34) rfl (l' := #[.val (.ref b), .val (.int (3 : Int32)), .val (.int x)]) rfl) ?_
  refine OGets.step (fun _ => XS.iloadN X184.here hx rfl (hb hby dj52m4_37) rfl) ?_
  obtain ⟨T186, X186, e186, st186⟩ := getS2 X184 hx hZ hown (host := "") (Or.inl (hw _ (List.mem_of_getElem? (i := 69) rfl))) Via.refl e184 (SH.ext O0.2) (g := (mkF m 38 #[.val (.ref b), .val (.int (3 : Int32)), .val (.int x)] [(.int x), (.int (2 : Int32)), (.ref b)])) rfl (hb hby dj52m4_38)
  refine OGets.step st186 ?_
  refine OGets.step (fun _ => XS.ishr X186.here hx rfl (hb hby dj52m4_41) rfl) ?_
  refine OGets.step (fun _ => XS.i2b X186.here hx rfl (hb hby dj52m4_42) rfl) ?_
  obtain ⟨cl187, Ar187, S187⟩ := V0.arr 0 rfl
  obtain ⟨T187, h187, X187, e187, W187', st187⟩ := stB X186 hx hZ e186 Ar187 (j := (2 : Int32)) (own_inb S187 2 (by decide) (Nat.le_of_ble_eq_true rfl)) (g := (mkF m 43 #[.val (.ref b), .val (.int (3 : Int32)), .val (.int x)] [(.int ((x >>> ((0 : Int32) &&& 31)).toInt8.toInt32)), (.int (2 : Int32)), (.ref b)])) rfl rfl (hb hby dj52m4_43)
  have W187 := own_wr (vs := []) 2 (by decide) W187'
  have V187 : OView Z n0 h187 (((b, Sum.inr (.byte, [(.int y0), (.int y1), (.int (hb' x)), (.int (0 : Int32)), (.int (0 : Int32)), (.int (0 : Int32))])) : Addr × OObj) :: F) := V0.putA 0 rfl W187
  have N187 := Fr.snoc X187 N0 (V0.old 0 rfl)
  have Z187 : n0 ≤ h187.size := by rw [W187.size]; exact Z0
  have O187 := O0.wr W187 (V0.old 0 rfl)
  refine OGets.step st187 ?_
  refine OGets.step (fun _ => XS.aloadN X187.here hx rfl (hb hby dj52m4_44) rfl rfl) ?_
  refine OGets.step (fun _ => XS.iloadN X187.here hx rfl (hb hby dj52m4_45) rfl) ?_
  refine OGets.step (fun _ => XS.iloadN X187.here hx rfl (hb hby dj52m4_46) rfl) ?_
  obtain ⟨T188, X188, e188, st188⟩ := getS2 X187 hx hZ hown (host := "") (Or.inl (hw _ (List.mem_of_getElem? (i := 70) rfl))) Via.refl e187 (SL.ext O187.2) (g := (mkF m 47 #[.val (.ref b), .val (.int (3 : Int32)), .val (.int x)] [(.int x), (.int (3 : Int32)), (.ref b)])) rfl (hb hby dj52m4_47)
  refine OGets.step st188 ?_
  refine OGets.step (fun _ => XS.ishr X188.here hx rfl (hb hby dj52m4_50) rfl) ?_
  refine OGets.step (fun _ => XS.i2b X188.here hx rfl (hb hby dj52m4_51) rfl) ?_
  obtain ⟨cl189, Ar189, S189⟩ := V187.arr 0 rfl
  obtain ⟨T189, h189, X189, e189, W189', st189⟩ := stB X188 hx hZ e188 Ar189 (j := (3 : Int32)) (own_inb S189 3 (by decide) (Nat.le_of_ble_eq_true rfl)) (g := (mkF m 52 #[.val (.ref b), .val (.int (3 : Int32)), .val (.int x)] [(.int ((x >>> ((8 : Int32) &&& 31)).toInt8.toInt32)), (.int (3 : Int32)), (.ref b)])) rfl rfl (hb hby dj52m4_52)
  have W189 := own_wr (vs := []) 3 (by decide) W189'
  have V189 : OView Z n0 h189 (((b, Sum.inr (.byte, [(.int y0), (.int y1), (.int (hb' x)), (.int (lb' x)), (.int (0 : Int32)), (.int (0 : Int32))])) : Addr × OObj) :: F) := V187.putA 0 rfl W189
  have N189 := Fr.snoc X189 N187 (V187.old 0 rfl)
  have Z189 : n0 ≤ h189.size := by rw [W189.size]; exact Z187
  have O189 := O187.wr W189 (V187.old 0 rfl)
  refine OGets.step st189 ?_
  refine OGets.retV X189 hx hlk Bd.returns (hb hby dj52m4_53) (Nat.le_of_ble_eq_true rfl) (Nat.le_of_ble_eq_true rfl) ?_
  rw [e189]
  exact ⟨rfl, N189, V189, O189⟩
theorem ef_pch32 (m : MethodId) (x0 : Addr) (x1 : Int32) (x2 : Int32) : entryFrame m #[(.ref x0), (.int x1), (.int x2)] 3 = mkF m 0 #[.val (.ref x0), .val (.int x1), .val (.int x2)] [] := by first | (simp [entryFrame, mkF, argsToLocals, Value.category]; done) | rfl
def Q_pch32 (Z : State) (b : Addr) (x : Int32) (y0 : Int32) (y1 : Int32) (y2 : Int32) (y3 : Int32) (h0 : Heap) (n0 : Nat) (F : List (Addr × OObj)) (v : Option Value) (h : Heap) (L : List Loc) : Prop := v = none ∧ Fr n0 L ∧ OView Z n0 h (((b, Sum.inr (.byte, [(.int y0), (.int y1), (.int y2), (.int y3), (.int (hb' x)), (.int (lb' x))])) : Addr × OObj) :: F) ∧ Old Z n0 h
set_option maxRecDepth 65536 in
set_option maxHeartbeats 40000000 in
theorem rm_pch32 (l : Launch) (Z : State) (a0 : Array Value) (hw : ∀ d ∈ tables_1, d.before a0 Z = true) (ws : List Jvm.Cond) (b : Addr) (x : Int32) (y0 : Int32) (y1 : Int32) (y2 : Int32) (y3 : Int32) (h0 : Heap) (n0 : Nat) (F : List (Addr × OObj)) (Z0 : n0 ≤ h0.size) (SA : Sta Z Z.heap "java/lang/StringUTF16" "$assertionsDisabled" "Z" (.int (1 : Int32))) (SH : Sta Z Z.heap "java/lang/StringUTF16" "HI_BYTE_SHIFT" "I" (.int (0 : Int32))) (SL : Sta Z Z.heap "java/lang/StringUTF16" "LO_BYTE_SHIFT" "I" (.int (8 : Int32))) (V0 : OView Z n0 h0 (((b, Sum.inr (.byte, [(.int y0), (.int y1), (.int y2), (.int y3), (.int (0 : Int32)), (.int (0 : Int32))])) : Addr × OObj) :: F)) (O0 : Old Z n0 h0) :
    MetFree l (⟨"java/lang/StringUTF16", "putChar", "([BII)V"⟩ : MethodName) (head1 (Jvm.Cond.code (⟨"java/lang/StringUTF16", "putChar", "([BII)V"⟩ : MethodName) jdk_52_method_4_code 3 none :: ws) ({ frames := 0, cells := 0, slots := 0, locals := 0 } : Room)) (fun a_ U => a_ = #[(.ref b), (.int (2 : Int32)), (.int x)] ∧ Z.Warmed39 U.vm ∧ U.heap = h0) (fun _ _ _ _ _ => True) (fun _ U o U' => ∃ v L, o = .returned v ∧ Q_pch32 Z b x y0 y1 y2 y3 h0 n0 F v U'.heap L ∧ FrameEnd U o U' L ({ frames := 0, cells := 0, slots := 0, locals := 0 } : Room).cells ({ frames := 0, cells := 0, slots := 0, locals := 0 } : Room).slots) := by
  refine MetFree.of_bodySF (plainFor_of_name pn_1) hisR ?_
  intro p e s m args below meth c s₁ Bd hml0 hP hK
  obtain ⟨rfl, hZ, hh⟩ := hP
  have hx := Bd.exec
  have hby := Bd.bytes
  have hlk : meth.locks = false := Bd.notSynchronized
  have hml : c.maxLocals = 3 := hml0
  have hown : s.vm.findClass "java/lang/StringUTF16" = some m.cls := findClass_of_methodNamed Bd.named
  have hnm := (name_of_methodNamed Bd.named Bd.method).1
  have X0 : Stand p l e ({ frames := 0, cells := 0, slots := 0, locals := 0 } : Room) s m #[(.ref b), (.int (2 : Int32)), (.int x)] below meth c s₁ [] 0 0 := Stand.of_body Bd
  have e0 : s₁.heap = h0 := by rw [← hh, Bd.state]; rfl
  have N0 := Fr.nil n0
  show OGets p e below (OLeaves s (Q_pch32 Z b x y0 y1 y2 y3 h0 n0 F ) ({ frames := 0, cells := 0, slots := 0, locals := 0 } : Room).cells ({ frames := 0, cells := 0, slots := 0, locals := 0 } : Room).slots) _
  refine OGets.enter (ef_pch32 m b (2 : Int32) x) ?_
  show OGets p e below _ (s₁.setTop (mkF m 0 #[.val (.ref b), .val (.int (2 : Int32)), .val (.int x)] []))
  obtain ⟨T190, X190, e190, st190⟩ := getS2 X0 hx hZ hown (host := "") (Or.inl (hw _ (List.mem_of_getElem? (i := 68) rfl))) Via.refl e0 (SA.ext O0.2) (g := (mkF m 0 #[.val (.ref b), .val (.int (2 : Int32)), .val (.int x)] [])) rfl (hb hby dj52m4_0)
  refine OGets.step st190 ?_
  refine OGets.step (fun _ => XS.ifYes X190.here hx rfl (pc0 := 3) (pc' := 28) rfl (hb hby dj52m4_3) rfl ((if0 _ _).trans (feq (by decide : ¬ ((1 : Int32) = (0 : Int32)))).2) (by decide) (by decide)) ?_
  refine OGets.step (fun _ => XS.iloadN X190.here hx rfl (hb hby dj52m4_28) rfl) ?_
  refine OGets.step (fun _ => XS.iconst X190.here hx rfl (hb hby dj52m4_29)) ?_
  refine OGets.step (fun _ => XS.ishl X190.here hx rfl (hb hby dj52m4_30) rfl) ?_
  show OGets p e below _ (T190.setTop (mkF m 31 #[.val (.ref b), .val (.int (2 : Int32)), .val (.int x)] [(.int ((2 : Int32) <<< ((1 : Int32) &&& 31)))]))
  rw [show ((2 : Int32) <<< ((1 : Int32) &&& 31)) = (4 : Int32) from by decide]
  show OGets p e below _ (T190.setTop (mkF m 31 #[.val (.ref b), .val (.int (2 : Int32)), .val (.int x)] [(.int (4 : Int32))]))
  refine OGets.step (fun _ => XS.istoreN X190.here hx rfl (hb hby dj52m4_31) rfl (l' := #[.val (.ref b), .val (.int (4 : Int32)), .val (.int x)]) rfl) ?_
  refine OGets.step (fun _ => XS.aloadN X190.here hx rfl (hb hby dj52m4_32) rfl rfl) ?_
  refine OGets.step (fun _ => XS.iloadN X190.here hx rfl (hb hby dj52m4_33) rfl) ?_
  refine OGets.step (fun _ => XS.iinc X190.here hx rfl (hb hby dj52m4_34) rfl (l' := #[.val (.ref b), .val (.int (5 : Int32)), .val (.int x)]) rfl) ?_
  refine OGets.step (fun _ => XS.iloadN X190.here hx rfl (hb hby dj52m4_37) rfl) ?_
  obtain ⟨T192, X192, e192, st192⟩ := getS2 X190 hx hZ hown (host := "") (Or.inl (hw _ (List.mem_of_getElem? (i := 69) rfl))) Via.refl e190 (SH.ext O0.2) (g := (mkF m 38 #[.val (.ref b), .val (.int (5 : Int32)), .val (.int x)] [(.int x), (.int (4 : Int32)), (.ref b)])) rfl (hb hby dj52m4_38)
  refine OGets.step st192 ?_
  refine OGets.step (fun _ => XS.ishr X192.here hx rfl (hb hby dj52m4_41) rfl) ?_
  refine OGets.step (fun _ => XS.i2b X192.here hx rfl (hb hby dj52m4_42) rfl) ?_
  obtain ⟨cl193, Ar193, S193⟩ := V0.arr 0 rfl
  obtain ⟨T193, h193, X193, e193, W193', st193⟩ := stB X192 hx hZ e192 Ar193 (j := (4 : Int32)) (own_inb S193 4 (by decide) (Nat.le_of_ble_eq_true rfl)) (g := (mkF m 43 #[.val (.ref b), .val (.int (5 : Int32)), .val (.int x)] [(.int ((x >>> ((0 : Int32) &&& 31)).toInt8.toInt32)), (.int (4 : Int32)), (.ref b)])) rfl rfl (hb hby dj52m4_43)
  have W193 := own_wr (vs := []) 4 (by decide) W193'
  have V193 : OView Z n0 h193 (((b, Sum.inr (.byte, [(.int y0), (.int y1), (.int y2), (.int y3), (.int (hb' x)), (.int (0 : Int32))])) : Addr × OObj) :: F) := V0.putA 0 rfl W193
  have N193 := Fr.snoc X193 N0 (V0.old 0 rfl)
  have Z193 : n0 ≤ h193.size := by rw [W193.size]; exact Z0
  have O193 := O0.wr W193 (V0.old 0 rfl)
  refine OGets.step st193 ?_
  refine OGets.step (fun _ => XS.aloadN X193.here hx rfl (hb hby dj52m4_44) rfl rfl) ?_
  refine OGets.step (fun _ => XS.iloadN X193.here hx rfl (hb hby dj52m4_45) rfl) ?_
  refine OGets.step (fun _ => XS.iloadN X193.here hx rfl (hb hby dj52m4_46) rfl) ?_
  obtain ⟨T194, X194, e194, st194⟩ := getS2 X193 hx hZ hown (host := "") (Or.inl (hw _ (List.mem_of_getElem? (i := 70) rfl))) Via.refl e193 (SL.ext O193.2) (g := (mkF m 47 #[.val (.ref b), .val (.int (5 : Int32)), .val (.int x)] [(.int x), (.int (5 : Int32)), (.ref b)])) rfl (hb hby dj52m4_47)
  refine OGets.step st194 ?_
  refine OGets.step (fun _ => XS.ishr X194.here hx rfl (hb hby dj52m4_50) rfl) ?_
  refine OGets.step (fun _ => XS.i2b X194.here hx rfl (hb hby dj52m4_51) rfl) ?_
  obtain ⟨cl195, Ar195, S195⟩ := V193.arr 0 rfl
  obtain ⟨T195, h195, X195, e195, W195', st195⟩ := stB X194 hx hZ e194 Ar195 (j := (5 : Int32)) (own_inb S195 5 (by decide) (Nat.le_of_ble_eq_true rfl)) (g := (mkF m 52 #[.val (.ref b), .val (.int (5 : Int32)), .val (.int x)] [(.int ((x >>> ((8 : Int32) &&& 31)).toInt8.toInt32)), (.int (5 : Int32)), (.ref b)])) rfl rfl (hb hby dj52m4_52)
  have W195 := own_wr (vs := []) 5 (by decide) W195'
  have V195 : OView Z n0 h195 (((b, Sum.inr (.byte, [(.int y0), (.int y1), (.int y2), (.int y3), (.int (hb' x)), (.int (lb' x))])) : Addr × OObj) :: F) := V193.putA 0 rfl W195
  have N195 := Fr.snoc X195 N193 (V193.old 0 rfl)
  have Z195 : n0 ≤ h195.size := by rw [W195.size]; exact Z193
  have O195 := O193.wr W195 (V193.old 0 rfl)
  refine OGets.step st195 ?_
  refine OGets.retV X195 hx hlk Bd.returns (hb hby dj52m4_53) (Nat.le_of_ble_eq_true rfl) (Nat.le_of_ble_eq_true rfl) ?_
  rw [e195]
  exact ⟨rfl, N195, V195, O195⟩
theorem ef_tob3 (m : MethodId) (x0 : Addr) (x1 : Int32) (x2 : Int32) : entryFrame m #[(.ref x0), (.int x1), (.int x2)] 5 = mkF m 0 #[.val (.ref x0), .val (.int x1), .val (.int x2), .unset, .unset] [] := by first | (simp [entryFrame, mkF, argsToLocals, Value.category]; done) | rfl
def Q_tob3 (Z : State) (a : Addr) (c0 : Int32) (c1 : Int32) (c2 : Int32) (h0 : Heap) (n0 : Nat) (F : List (Addr × OObj)) (v : Option Value) (h : Heap) (L : List Loc) : Prop := ∃ b : Addr, v = some (.ref b) ∧ Fr n0 L ∧ OView Z n0 h (((b, Sum.inr (.byte, [(.int (hb' c0)), (.int (lb' c0)), (.int (hb' c1)), (.int (lb' c1)), (.int (hb' c2)), (.int (lb' c2))])) : Addr × OObj) :: ((a, Sum.inr (.char, [(.int c0), (.int c1), (.int c2)])) : Addr × OObj) :: F) ∧ Old Z n0 h
set_option maxRecDepth 65536 in
set_option maxHeartbeats 40000000 in
theorem rm_tob3 (l : Launch) (Z : State) (a0 : Array Value) (hw : ∀ d ∈ tables_1, d.before a0 Z = true) (ws : List Jvm.Cond) (a : Addr) (c0 : Int32) (c1 : Int32) (c2 : Int32) (h0 : Heap) (n0 : Nat) (F : List (Addr × OObj)) (Z0 : n0 ≤ h0.size) (SA : Sta Z Z.heap "java/lang/StringUTF16" "$assertionsDisabled" "Z" (.int (1 : Int32))) (SH : Sta Z Z.heap "java/lang/StringUTF16" "HI_BYTE_SHIFT" "I" (.int (0 : Int32))) (SL : Sta Z Z.heap "java/lang/StringUTF16" "LO_BYTE_SHIFT" "I" (.int (8 : Int32))) (V0 : OView Z n0 h0 (((a, Sum.inr (.char, [(.int c0), (.int c1), (.int c2)])) : Addr × OObj) :: F)) (O0 : Old Z n0 h0) :
    MetFree l (⟨"java/lang/StringUTF16", "toBytes", "([CII)[B"⟩ : MethodName) (head1 (Jvm.Cond.code (⟨"java/lang/StringUTF16", "toBytes", "([CII)[B"⟩ : MethodName) jdk_52_method_14_code 5 (some (.array .byte)) :: ws) ({ frames := 2, cells := 1, slots := 6, locals := 24 } : Room)) (fun a_ U => a_ = #[(.ref a), (.int (0 : Int32)), (.int (3 : Int32))] ∧ Z.Warmed39 U.vm ∧ U.heap = h0) (fun _ _ _ _ _ => True) (fun _ U o U' => ∃ v L, o = .returned v ∧ Q_tob3 Z a c0 c1 c2 h0 n0 F v U'.heap L ∧ FrameEnd U o U' L ({ frames := 2, cells := 1, slots := 6, locals := 24 } : Room).cells ({ frames := 2, cells := 1, slots := 6, locals := 24 } : Room).slots) := by
  refine MetFree.of_bodySF (plainFor_of_name pn_1) hisR ?_
  intro p e s m args below meth c s₁ Bd hml0 hP hK
  obtain ⟨rfl, hZ, hh⟩ := hP
  have hx := Bd.exec
  have hby := Bd.bytes
  have hlk : meth.locks = false := Bd.notSynchronized
  have hml : c.maxLocals = 5 := hml0
  have hown : s.vm.findClass "java/lang/StringUTF16" = some m.cls := findClass_of_methodNamed Bd.named
  have hnm := (name_of_methodNamed Bd.named Bd.method).1
  have X0 : Stand p l e ({ frames := 2, cells := 1, slots := 6, locals := 24 } : Room) s m #[(.ref a), (.int (0 : Int32)), (.int (3 : Int32))] below meth c s₁ [] 0 0 := Stand.of_body Bd
  have e0 : s₁.heap = h0 := by rw [← hh, Bd.state]; rfl
  have N0 := Fr.nil n0
  show OGets p e below (OLeaves s (Q_tob3 Z a c0 c1 c2 h0 n0 F ) ({ frames := 2, cells := 1, slots := 6, locals := 24 } : Room).cells ({ frames := 2, cells := 1, slots := 6, locals := 24 } : Room).slots) _
  refine OGets.enter (ef_tob3 m a (0 : Int32) (3 : Int32)) ?_
  show OGets p e below _ (s₁.setTop (mkF m 0 #[.val (.ref a), .val (.int (0 : Int32)), .val (.int (3 : Int32)), .unset, .unset] []))
  refine OGets.step (fun _ => XS.iloadN X0.here hx rfl (hb hby dj52m14_0) rfl) ?_
  obtain ⟨_, _, ⟨T196, L196, k196, n196⟩, -, X196, ⟨Lc196, hQ196, l196, y196, z196⟩, st196⟩ := Jvm.LawKit.callS X0 hx (y := (⟨"java/lang/StringUTF16", "newBytesFor", "(I)[B"⟩ : MethodName)) hown (mvT hZ (hw _ (List.mem_of_getElem? (i := 58) rfl))) (mvT hZ (hw _ (List.mem_of_getElem? (i := 59) rfl))) (mvT hZ (hw _ (List.mem_of_getElem? (i := 47) rfl))) (mvT hZ (hw _ (List.mem_of_getElem? (i := 60) rfl))) (by decide) (backOf (W := 0) (rm_nbf3 l Z a0 hw []  h0 n0 _ Z0  V0 O0) hZ (hw _ (List.mem_of_getElem? (i := 60) rfl)) (hw _ (List.mem_of_getElem? (i := 47) rfl)) (by decide) (by decide)) (g := (mkF m 1 #[.val (.ref a), .val (.int (0 : Int32)), .val (.int (3 : Int32)), .unset, .unset] [(.int (3 : Int32))])) rfl (by rw [hml]; rfl) (argsL := [(.int (3 : Int32))]) (rest := []) (lenOf pd_3 rfl) rfl (by show 2 * 0 + _ ≤ _; exact Nat.le_of_eq rfl) (hb hby dj52m14_1) (fun _ _ => ⟨rfl, e0, Nat.le_of_ble_eq_true rfl, Nat.le_of_ble_eq_true rfl⟩)
  dsimp only [Pt.U, Pt.locs, Pt.cells, Pt.slots] at X196 l196 y196 z196 st196 hQ196
  rw [l196, y196, z196] at X196
  obtain ⟨b196, rfl, N196q, V196, O196q⟩ := hQ196
  have N196 := Fr.app N0 N196q
  have V196v : OView Z n0 T196.heap (((b196, Sum.inr (.byte, [(.int (0 : Int32)), (.int (0 : Int32)), (.int (0 : Int32)), (.int (0 : Int32)), (.int (0 : Int32)), (.int (0 : Int32))])) : Addr × OObj) :: ((a, Sum.inr (.char, [(.int c0), (.int c1), (.int c2)])) : Addr × OObj) :: F) := V196
  have Z196 : n0 ≤ T196.heap.size := V196v.big 0 rfl
  refine OGets.step st196 ?_
  refine OGets.step (fun _ => XS.astoreN X196.here hx rfl (hb hby dj52m14_4) rfl rfl (l' := #[.val (.ref a), .val (.int (0 : Int32)), .val (.int (3 : Int32)), .val (.ref b196), .unset]) rfl) ?_
  refine OGets.step (fun _ => XS.iconst X196.here hx rfl (hb hby dj52m14_5)) ?_
  refine OGets.step (fun _ => XS.istore X196.here hx rfl (hb hby dj52m14_6) rfl (l' := #[.val (.ref a), .val (.int (0 : Int32)), .val (.int (3 : Int32)), .val (.ref b196), .val (.int (0 : Int32))]) rfl) ?_
  refine OGets.step (fun _ => XS.iload X196.here hx rfl (hb hby dj52m14_8) rfl) ?_
  refine OGets.step (fun _ => XS.iloadN X196.here hx rfl (hb hby dj52m14_10) rfl) ?_
  show OGets p e below _ (T196.setTop (mkF m 11 #[.val (.ref a), .val (.int (0 : Int32)), .val (.int (3 : Int32)), .val (.ref b196), .val (.int (0 : Int32))] [(.int (3 : Int32)), (.int (0 : Int32))]))
  refine OGets.step (fun _ => XS.icmpNo X196.here hx rfl (hb hby dj52m14_11) rfl (tlt (by decide : (0 : Int32) < (3 : Int32))).2.1) ?_
  refine OGets.step (fun _ => XS.aloadN X196.here hx rfl (hb hby dj52m14_14) rfl rfl) ?_
  refine OGets.step (fun _ => XS.iload X196.here hx rfl (hb hby dj52m14_15) rfl) ?_
  refine OGets.step (fun _ => XS.aloadN X196.here hx rfl (hb hby dj52m14_17) rfl rfl) ?_
  refine OGets.step (fun _ => XS.iloadN X196.here hx rfl (hb hby dj52m14_18) rfl) ?_
  obtain ⟨cl198, Ar198, S198⟩ := V196v.arr 1 rfl
  refine OGets.step (fun _ => X196.caload hx (j := (0 : Int32)) (v := (.int c0)) Ar198.1 (State.isArrayOf_alike hZ.alike Ar198.2.1) Ar198.2.2 (own_inb S198 0 (by decide) (Nat.le_of_ble_eq_true rfl)) (own_get S198 0 (by decide) rfl) (g := (mkF m 19 #[.val (.ref a), .val (.int (0 : Int32)), .val (.int (3 : Int32)), .val (.ref b196), .val (.int (0 : Int32))] [(.int (0 : Int32)), (.ref a), (.int (0 : Int32)), (.ref b196)])) rfl rfl (hb hby dj52m14_19) _) ?_
  show OGets p e below _ (T196.setTop (mkF m 20 #[.val (.ref a), .val (.int (0 : Int32)), .val (.int (3 : Int32)), .val (.ref b196), .val (.int (0 : Int32))] [(.int c0), (.int (0 : Int32)), (.ref b196)]))
  obtain ⟨_, _, ⟨T199, L199, k199, n199⟩, -, X199, ⟨Lc199, hQ199, l199, y199, z199⟩, st199⟩ := Jvm.LawKit.callS X196 hx (y := (⟨"java/lang/StringUTF16", "putChar", "([BII)V"⟩ : MethodName)) hown (mvT hZ (hw _ (List.mem_of_getElem? (i := 65) rfl))) (mvT hZ (hw _ (List.mem_of_getElem? (i := 66) rfl))) (mvT hZ (hw _ (List.mem_of_getElem? (i := 47) rfl))) (mvT hZ (hw _ (List.mem_of_getElem? (i := 67) rfl))) (by decide) (backOf (W := 0) (rm_pch30 l Z a0 hw [] b196 c0 T196.heap n0 _ Z196 SA SH SL V196v O196q) hZ (hw _ (List.mem_of_getElem? (i := 67) rfl)) (hw _ (List.mem_of_getElem? (i := 47) rfl)) (by decide) (by decide)) (g := (mkF m 20 #[.val (.ref a), .val (.int (0 : Int32)), .val (.int (3 : Int32)), .val (.ref b196), .val (.int (0 : Int32))] [(.int c0), (.int (0 : Int32)), (.ref b196)])) rfl (by rw [hml]; rfl) (argsL := [(.ref b196), (.int (0 : Int32)), (.int c0)]) (rest := []) (lenOf pd_4 rfl) rfl (by show 2 * 0 + _ ≤ _; exact Nat.le_of_eq rfl) (hb hby dj52m14_20) (fun _ _ => ⟨rfl, rfl, Nat.le_of_ble_eq_true rfl, Nat.le_of_ble_eq_true rfl⟩)
  dsimp only [Pt.U, Pt.locs, Pt.cells, Pt.slots] at X199 l199 y199 z199 st199 hQ199
  rw [l199, y199, z199] at X199
  obtain ⟨rfl, N199q, V199, O199q⟩ := hQ199
  have N199 := Fr.app N196 N199q
  have V199v : OView Z n0 T199.heap (((b196, Sum.inr (.byte, [(.int (hb' c0)), (.int (lb' c0)), (.int (0 : Int32)), (.int (0 : Int32)), (.int (0 : Int32)), (.int (0 : Int32))])) : Addr × OObj) :: ((a, Sum.inr (.char, [(.int c0), (.int c1), (.int c2)])) : Addr × OObj) :: F) := V199
  have Z199 : n0 ≤ T199.heap.size := V199v.big 0 rfl
  refine OGets.step st199 ?_
  refine OGets.step (fun _ => XS.iinc X199.here hx rfl (hb hby dj52m14_23) rfl (l' := #[.val (.ref a), .val (.int (1 : Int32)), .val (.int (3 : Int32)), .val (.ref b196), .val (.int (0 : Int32))]) rfl) ?_
  refine OGets.step (fun _ => XS.iinc X199.here hx rfl (hb hby dj52m14_26) rfl (l' := #[.val (.ref a), .val (.int (1 : Int32)), .val (.int (3 : Int32)), .val (.ref b196), .val (.int (1 : Int32))]) rfl) ?_
  refine OGets.step (fun _ => XS.goto X199.here hx rfl (pc0 := 29) (pc' := 8) rfl (hb hby dj52m14_29) (by decide) (by decide)) ?_
  refine OGets.step (fun _ => XS.iload X199.here hx rfl (hb hby dj52m14_8) rfl) ?_
  refine OGets.step (fun _ => XS.iloadN X199.here hx rfl (hb hby dj52m14_10) rfl) ?_
  show OGets p e below _ (T199.setTop (mkF m 11 #[.val (.ref a), .val (.int (1 : Int32)), .val (.int (3 : Int32)), .val (.ref b196), .val (.int (1 : Int32))] [(.int (3 : Int32)), (.int (1 : Int32))]))
  refine OGets.step (fun _ => XS.icmpNo X199.here hx rfl (hb hby dj52m14_11) rfl (tlt (by decide : (1 : Int32) < (3 : Int32))).2.1) ?_
  refine OGets.step (fun _ => XS.aloadN X199.here hx rfl (hb hby dj52m14_14) rfl rfl) ?_
  refine OGets.step (fun _ => XS.iload X199.here hx rfl (hb hby dj52m14_15) rfl) ?_
  refine OGets.step (fun _ => XS.aloadN X199.here hx rfl (hb hby dj52m14_17) rfl rfl) ?_
  refine OGets.step (fun _ => XS.iloadN X199.here hx rfl (hb hby dj52m14_18) rfl) ?_
  obtain ⟨cl201, Ar201, S201⟩ := V199v.arr 1 rfl
  refine OGets.step (fun _ => X199.caload hx (j := (1 : Int32)) (v := (.int c1)) Ar201.1 (State.isArrayOf_alike hZ.alike Ar201.2.1) Ar201.2.2 (own_inb S201 1 (by decide) (Nat.le_of_ble_eq_true rfl)) (own_get S201 1 (by decide) rfl) (g := (mkF m 19 #[.val (.ref a), .val (.int (1 : Int32)), .val (.int (3 : Int32)), .val (.ref b196), .val (.int (1 : Int32))] [(.int (1 : Int32)), (.ref a), (.int (1 : Int32)), (.ref b196)])) rfl rfl (hb hby dj52m14_19) _) ?_
  show OGets p e below _ (T199.setTop (mkF m 20 #[.val (.ref a), .val (.int (1 : Int32)), .val (.int (3 : Int32)), .val (.ref b196), .val (.int (1 : Int32))] [(.int c1), (.int (1 : Int32)), (.ref b196)]))
  obtain ⟨_, _, ⟨T202, L202, k202, n202⟩, -, X202, ⟨Lc202, hQ202, l202, y202, z202⟩, st202⟩ := Jvm.LawKit.callS X199 hx (y := (⟨"java/lang/StringUTF16", "putChar", "([BII)V"⟩ : MethodName)) hown (mvT hZ (hw _ (List.mem_of_getElem? (i := 65) rfl))) (mvT hZ (hw _ (List.mem_of_getElem? (i := 66) rfl))) (mvT hZ (hw _ (List.mem_of_getElem? (i := 47) rfl))) (mvT hZ (hw _ (List.mem_of_getElem? (i := 67) rfl))) (by decide) (backOf (W := 0) (rm_pch31 l Z a0 hw [] b196 c1 (hb' c0) (lb' c0) T199.heap n0 _ Z199 SA SH SL V199v O199q) hZ (hw _ (List.mem_of_getElem? (i := 67) rfl)) (hw _ (List.mem_of_getElem? (i := 47) rfl)) (by decide) (by decide)) (g := (mkF m 20 #[.val (.ref a), .val (.int (1 : Int32)), .val (.int (3 : Int32)), .val (.ref b196), .val (.int (1 : Int32))] [(.int c1), (.int (1 : Int32)), (.ref b196)])) rfl (by rw [hml]; rfl) (argsL := [(.ref b196), (.int (1 : Int32)), (.int c1)]) (rest := []) (lenOf pd_4 rfl) rfl (by show 2 * 0 + _ ≤ _; exact Nat.le_of_eq rfl) (hb hby dj52m14_20) (fun _ _ => ⟨rfl, rfl, Nat.le_of_ble_eq_true rfl, Nat.le_of_ble_eq_true rfl⟩)
  dsimp only [Pt.U, Pt.locs, Pt.cells, Pt.slots] at X202 l202 y202 z202 st202 hQ202
  rw [l202, y202, z202] at X202
  obtain ⟨rfl, N202q, V202, O202q⟩ := hQ202
  have N202 := Fr.app N199 N202q
  have V202v : OView Z n0 T202.heap (((b196, Sum.inr (.byte, [(.int (hb' c0)), (.int (lb' c0)), (.int (hb' c1)), (.int (lb' c1)), (.int (0 : Int32)), (.int (0 : Int32))])) : Addr × OObj) :: ((a, Sum.inr (.char, [(.int c0), (.int c1), (.int c2)])) : Addr × OObj) :: F) := V202
  have Z202 : n0 ≤ T202.heap.size := V202v.big 0 rfl
  refine OGets.step st202 ?_
  refine OGets.step (fun _ => XS.iinc X202.here hx rfl (hb hby dj52m14_23) rfl (l' := #[.val (.ref a), .val (.int (2 : Int32)), .val (.int (3 : Int32)), .val (.ref b196), .val (.int (1 : Int32))]) rfl) ?_
  refine OGets.step (fun _ => XS.iinc X202.here hx rfl (hb hby dj52m14_26) rfl (l' := #[.val (.ref a), .val (.int (2 : Int32)), .val (.int (3 : Int32)), .val (.ref b196), .val (.int (2 : Int32))]) rfl) ?_
  refine OGets.step (fun _ => XS.goto X202.here hx rfl (pc0 := 29) (pc' := 8) rfl (hb hby dj52m14_29) (by decide) (by decide)) ?_
  refine OGets.step (fun _ => XS.iload X202.here hx rfl (hb hby dj52m14_8) rfl) ?_
  refine OGets.step (fun _ => XS.iloadN X202.here hx rfl (hb hby dj52m14_10) rfl) ?_
  show OGets p e below _ (T202.setTop (mkF m 11 #[.val (.ref a), .val (.int (2 : Int32)), .val (.int (3 : Int32)), .val (.ref b196), .val (.int (2 : Int32))] [(.int (3 : Int32)), (.int (2 : Int32))]))
  refine OGets.step (fun _ => XS.icmpNo X202.here hx rfl (hb hby dj52m14_11) rfl (tlt (by decide : (2 : Int32) < (3 : Int32))).2.1) ?_
  refine OGets.step (fun _ => XS.aloadN X202.here hx rfl (hb hby dj52m14_14) rfl rfl) ?_
  refine OGets.step (fun _ => XS.iload X202.here hx rfl (hb hby dj52m14_15) rfl) ?_
  refine OGets.step (fun _ => XS.aloadN X202.here hx rfl (hb hby dj52m14_17) rfl rfl) ?_
  refine OGets.step (fun _ => XS.iloadN X202.here hx rfl (hb hby dj52m14_18) rfl) ?_
  obtain ⟨cl204, Ar204, S204⟩ := V202v.arr 1 rfl
  refine OGets.step (fun _ => X202.caload hx (j := (2 : Int32)) (v := (.int c2)) Ar204.1 (State.isArrayOf_alike hZ.alike Ar204.2.1) Ar204.2.2 (own_inb S204 2 (by decide) (Nat.le_of_ble_eq_true rfl)) (own_get S204 2 (by decide) rfl) (g := (mkF m 19 #[.val (.ref a), .val (.int (2 : Int32)), .val (.int (3 : Int32)), .val (.ref b196), .val (.int (2 : Int32))] [(.int (2 : Int32)), (.ref a), (.int (2 : Int32)), (.ref b196)])) rfl rfl (hb hby dj52m14_19) _) ?_
  show OGets p e below _ (T202.setTop (mkF m 20 #[.val (.ref a), .val (.int (2 : Int32)), .val (.int (3 : Int32)), .val (.ref b196), .val (.int (2 : Int32))] [(.int c2), (.int (2 : Int32)), (.ref b196)]))
  obtain ⟨_, _, ⟨T205, L205, k205, n205⟩, -, X205, ⟨Lc205, hQ205, l205, y205, z205⟩, st205⟩ := Jvm.LawKit.callS X202 hx (y := (⟨"java/lang/StringUTF16", "putChar", "([BII)V"⟩ : MethodName)) hown (mvT hZ (hw _ (List.mem_of_getElem? (i := 65) rfl))) (mvT hZ (hw _ (List.mem_of_getElem? (i := 66) rfl))) (mvT hZ (hw _ (List.mem_of_getElem? (i := 47) rfl))) (mvT hZ (hw _ (List.mem_of_getElem? (i := 67) rfl))) (by decide) (backOf (W := 0) (rm_pch32 l Z a0 hw [] b196 c2 (hb' c0) (lb' c0) (hb' c1) (lb' c1) T202.heap n0 _ Z202 SA SH SL V202v O202q) hZ (hw _ (List.mem_of_getElem? (i := 67) rfl)) (hw _ (List.mem_of_getElem? (i := 47) rfl)) (by decide) (by decide)) (g := (mkF m 20 #[.val (.ref a), .val (.int (2 : Int32)), .val (.int (3 : Int32)), .val (.ref b196), .val (.int (2 : Int32))] [(.int c2), (.int (2 : Int32)), (.ref b196)])) rfl (by rw [hml]; rfl) (argsL := [(.ref b196), (.int (2 : Int32)), (.int c2)]) (rest := []) (lenOf pd_4 rfl) rfl (by show 2 * 0 + _ ≤ _; exact Nat.le_of_eq rfl) (hb hby dj52m14_20) (fun _ _ => ⟨rfl, rfl, Nat.le_of_ble_eq_true rfl, Nat.le_of_ble_eq_true rfl⟩)
  dsimp only [Pt.U, Pt.locs, Pt.cells, Pt.slots] at X205 l205 y205 z205 st205 hQ205
  rw [l205, y205, z205] at X205
  obtain ⟨rfl, N205q, V205, O205q⟩ := hQ205
  have N205 := Fr.app N202 N205q
  have V205v : OView Z n0 T205.heap (((b196, Sum.inr (.byte, [(.int (hb' c0)), (.int (lb' c0)), (.int (hb' c1)), (.int (lb' c1)), (.int (hb' c2)), (.int (lb' c2))])) : Addr × OObj) :: ((a, Sum.inr (.char, [(.int c0), (.int c1), (.int c2)])) : Addr × OObj) :: F) := V205
  have Z205 : n0 ≤ T205.heap.size := V205v.big 0 rfl
  refine OGets.step st205 ?_
  refine OGets.step (fun _ => XS.iinc X205.here hx rfl (hb hby dj52m14_23) rfl (l' := #[.val (.ref a), .val (.int (3 : Int32)), .val (.int (3 : Int32)), .val (.ref b196), .val (.int (2 : Int32))]) rfl) ?_
  refine OGets.step (fun _ => XS.iinc X205.here hx rfl (hb hby dj52m14_26) rfl (l' := #[.val (.ref a), .val (.int (3 : Int32)), .val (.int (3 : Int32)), .val (.ref b196), .val (.int (3 : Int32))]) rfl) ?_
  refine OGets.step (fun _ => XS.goto X205.here hx rfl (pc0 := 29) (pc' := 8) rfl (hb hby dj52m14_29) (by decide) (by decide)) ?_
  refine OGets.step (fun _ => XS.iload X205.here hx rfl (hb hby dj52m14_8) rfl) ?_
  refine OGets.step (fun _ => XS.iloadN X205.here hx rfl (hb hby dj52m14_10) rfl) ?_
  show OGets p e below _ (T205.setTop (mkF m 11 #[.val (.ref a), .val (.int (3 : Int32)), .val (.int (3 : Int32)), .val (.ref b196), .val (.int (3 : Int32))] [(.int (3 : Int32)), (.int (3 : Int32))]))
  refine OGets.step (fun _ => XS.icmpYes X205.here hx rfl (pc0 := 11) (pc' := 32) rfl (hb hby dj52m14_11) rfl (flt (by decide : ¬ ((3 : Int32) < (3 : Int32)))).2.1 (by decide) (by decide)) ?_
  refine OGets.step (fun _ => XS.aloadN X205.here hx rfl (hb hby dj52m14_32) rfl rfl) ?_
  refine OGets.retA X205 hx hlk (t := (.array .byte)) Bd.returns rfl rfl rfl (hb hby dj52m14_33) (Nat.le_of_ble_eq_true rfl) (Nat.le_of_ble_eq_true rfl) ?_
  exact ⟨b196, rfl, N205, V205v, O205q⟩
theorem ef_gch30 (m : MethodId) (x0 : Addr) (x1 : Int32) : entryFrame m #[(.ref x0), (.int x1)] 2 = mkF m 0 #[.val (.ref x0), .val (.int x1)] [] := by first | (simp [entryFrame, mkF, argsToLocals, Value.category]; done) | rfl
def Q_gch30 (Z : State) (b : Addr) (y0 : Int32) (y1 : Int32) (y2 : Int32) (y3 : Int32) (y4 : Int32) (y5 : Int32) (h0 : Heap) (n0 : Nat) (F : List (Addr × OObj)) (v : Option Value) (h : Heap) (L : List Loc) : Prop := v = some (.int (gcv y0 y1)) ∧ L = [] ∧ h = h0
set_option maxRecDepth 65536 in
set_option maxHeartbeats 40000000 in
theorem rm_gch30 (l : Launch) (Z : State) (a0 : Array Value) (hw : ∀ d ∈ tables_1, d.before a0 Z = true) (ws : List Jvm.Cond) (b : Addr) (y0 : Int32) (y1 : Int32) (y2 : Int32) (y3 : Int32) (y4 : Int32) (y5 : Int32) (h0 : Heap) (n0 : Nat) (F : List (Addr × OObj)) (Z0 : n0 ≤ h0.size) (SA : Sta Z Z.heap "java/lang/StringUTF16" "$assertionsDisabled" "Z" (.int (1 : Int32))) (SH : Sta Z Z.heap "java/lang/StringUTF16" "HI_BYTE_SHIFT" "I" (.int (0 : Int32))) (SL : Sta Z Z.heap "java/lang/StringUTF16" "LO_BYTE_SHIFT" "I" (.int (8 : Int32))) (V0 : OView Z n0 h0 (((b, Sum.inr (.byte, [(.int y0), (.int y1), (.int y2), (.int y3), (.int y4), (.int y5)])) : Addr × OObj) :: F)) (O0 : Old Z n0 h0) :
    MetFree l (⟨"java/lang/StringUTF16", "getChar", "([BI)C"⟩ : MethodName) (head1 (Jvm.Cond.code (⟨"java/lang/StringUTF16", "getChar", "([BI)C"⟩ : MethodName) jdk_52_method_5_code 2 (some .char) :: ws) ({ frames := 0, cells := 0, slots := 0, locals := 0 } : Room)) (fun a_ U => a_ = #[(.ref b), (.int (0 : Int32))] ∧ Z.Warmed39 U.vm ∧ U.heap = h0) (fun _ _ _ _ _ => True) (fun _ U o U' => ∃ v L, o = .returned v ∧ Q_gch30 Z b y0 y1 y2 y3 y4 y5 h0 n0 F v U'.heap L ∧ FrameEnd U o U' L ({ frames := 0, cells := 0, slots := 0, locals := 0 } : Room).cells ({ frames := 0, cells := 0, slots := 0, locals := 0 } : Room).slots) := by
  refine MetFree.of_bodySF (plainFor_of_name pn_1) hisR ?_
  intro p e s m args below meth c s₁ Bd hml0 hP hK
  obtain ⟨rfl, hZ, hh⟩ := hP
  have hx := Bd.exec
  have hby := Bd.bytes
  have hlk : meth.locks = false := Bd.notSynchronized
  have hml : c.maxLocals = 2 := hml0
  have hown : s.vm.findClass "java/lang/StringUTF16" = some m.cls := findClass_of_methodNamed Bd.named
  have hnm := (name_of_methodNamed Bd.named Bd.method).1
  have X0 : Stand p l e ({ frames := 0, cells := 0, slots := 0, locals := 0 } : Room) s m #[(.ref b), (.int (0 : Int32))] below meth c s₁ [] 0 0 := Stand.of_body Bd
  have e0 : s₁.heap = h0 := by rw [← hh, Bd.state]; rfl
  have N0 := Fr.nil n0
  show OGets p e below (OLeaves s (Q_gch30 Z b y0 y1 y2 y3 y4 y5 h0 n0 F ) ({ frames := 0, cells := 0, slots := 0, locals := 0 } : Room).cells ({ frames := 0, cells := 0, slots := 0, locals := 0 } : Room).slots) _
  refine OGets.enter (ef_gch30 m b (0 : Int32)) ?_
  show OGets p e below _ (s₁.setTop (mkF m 0 #[.val (.ref b), .val (.int (0 : Int32))] []))
  obtain ⟨T207, X207, e207, st207⟩ := getS2 X0 hx hZ hown (host := "") (Or.inl (hw _ (List.mem_of_getElem? (i := 68) rfl))) Via.refl e0 (SA.ext O0.2) (g := (mkF m 0 #[.val (.ref b), .val (.int (0 : Int32))] [])) rfl (hb hby dj52m5_0)
  refine OGets.step st207 ?_
  refine OGets.step (fun _ => XS.ifYes X207.here hx rfl (pc0 := 3) (pc' := 28) rfl (hb hby dj52m5_3) rfl ((if0 _ _).trans (feq (by decide : ¬ ((1 : Int32) = (0 : Int32)))).2) (by decide) (by decide)) ?_
  refine OGets.step (fun _ => XS.iloadN X207.here hx rfl (hb hby dj52m5_28) rfl) ?_
  refine OGets.step (fun _ => XS.iconst X207.here hx rfl (hb hby dj52m5_29)) ?_
  refine OGets.step (fun _ => XS.ishl X207.here hx rfl (hb hby dj52m5_30) rfl) ?_
  show OGets p e below _ (T207.setTop (mkF m 31 #[.val (.ref b), .val (.int (0 : Int32))] [(.int ((0 : Int32) <<< ((1 : Int32) &&& 31)))]))
  rw [show ((0 : Int32) <<< ((1 : Int32) &&& 31)) = (0 : Int32) from by decide]
  show OGets p e below _ (T207.setTop (mkF m 31 #[.val (.ref b), .val (.int (0 : Int32))] [(.int (0 : Int32))]))
  refine OGets.step (fun _ => XS.istoreN X207.here hx rfl (hb hby dj52m5_31) rfl (l' := #[.val (.ref b), .val (.int (0 : Int32))]) rfl) ?_
  refine OGets.step (fun _ => XS.aloadN X207.here hx rfl (hb hby dj52m5_32) rfl rfl) ?_
  refine OGets.step (fun _ => XS.iloadN X207.here hx rfl (hb hby dj52m5_33) rfl) ?_
  refine OGets.step (fun _ => XS.iinc X207.here hx rfl (hb hby dj52m5_34) rfl (l' := #[.val (.ref b), .val (.int (1 : Int32))]) rfl) ?_
  obtain ⟨cl209, Ar209, S209⟩ := V0.arr 0 rfl
  refine OGets.step (fun _ => X207.baloadBytes hx (j := (0 : Int32)) (v := (.int y0)) (by rw [e207]; exact Ar209.1) (State.isArrayOf_alike hZ.alike Ar209.2.1) Ar209.2.2 (own_inb S209 0 (by decide) (Nat.le_of_ble_eq_true rfl)) (own_get S209 0 (by decide) rfl) (g := (mkF m 37 #[.val (.ref b), .val (.int (1 : Int32))] [(.int (0 : Int32)), (.ref b)])) rfl rfl (hb hby dj52m5_37) _) ?_
  refine OGets.step (fun _ => XS.sipush X207.here hx rfl (hb hby dj52m5_38)) ?_
  show OGets p e below _ (T207.setTop (mkF m 41 #[.val (.ref b), .val (.int (1 : Int32))] [(.int (255 : Int32)), (.int y0)]))
  refine OGets.step (fun _ => XS.iand X207.here hx rfl (hb hby dj52m5_41) rfl) ?_
  obtain ⟨T210, X210, e210, st210⟩ := getS2 X207 hx hZ hown (host := "") (Or.inl (hw _ (List.mem_of_getElem? (i := 69) rfl))) Via.refl e207 (SH.ext O0.2) (g := (mkF m 42 #[.val (.ref b), .val (.int (1 : Int32))] [(.int (y0 &&& (255 : Int32)))])) rfl (hb hby dj52m5_42)
  refine OGets.step st210 ?_
  refine OGets.step (fun _ => XS.ishl X210.here hx rfl (hb hby dj52m5_45) rfl) ?_
  refine OGets.step (fun _ => XS.aloadN X210.here hx rfl (hb hby dj52m5_46) rfl rfl) ?_
  refine OGets.step (fun _ => XS.iloadN X210.here hx rfl (hb hby dj52m5_47) rfl) ?_
  obtain ⟨cl211, Ar211, S211⟩ := V0.arr 0 rfl
  refine OGets.step (fun _ => X210.baloadBytes hx (j := (1 : Int32)) (v := (.int y1)) (by rw [e210]; exact Ar211.1) (State.isArrayOf_alike hZ.alike Ar211.2.1) Ar211.2.2 (own_inb S211 1 (by decide) (Nat.le_of_ble_eq_true rfl)) (own_get S211 1 (by decide) rfl) (g := (mkF m 48 #[.val (.ref b), .val (.int (1 : Int32))] [(.int (1 : Int32)), (.ref b), (.int ((y0 &&& (255 : Int32)) <<< ((0 : Int32) &&& 31)))])) rfl rfl (hb hby dj52m5_48) _) ?_
  refine OGets.step (fun _ => XS.sipush X210.here hx rfl (hb hby dj52m5_49)) ?_
  show OGets p e below _ (T210.setTop (mkF m 52 #[.val (.ref b), .val (.int (1 : Int32))] [(.int (255 : Int32)), (.int y1), (.int ((y0 &&& (255 : Int32)) <<< ((0 : Int32) &&& 31)))]))
  refine OGets.step (fun _ => XS.iand X210.here hx rfl (hb hby dj52m5_52) rfl) ?_
  obtain ⟨T212, X212, e212, st212⟩ := getS2 X210 hx hZ hown (host := "") (Or.inl (hw _ (List.mem_of_getElem? (i := 70) rfl))) Via.refl e210 (SL.ext O0.2) (g := (mkF m 53 #[.val (.ref b), .val (.int (1 : Int32))] [(.int (y1 &&& (255 : Int32))), (.int ((y0 &&& (255 : Int32)) <<< ((0 : Int32) &&& 31)))])) rfl (hb hby dj52m5_53)
  refine OGets.step st212 ?_
  refine OGets.step (fun _ => XS.ishl X212.here hx rfl (hb hby dj52m5_56) rfl) ?_
  refine OGets.step (fun _ => XS.ior X212.here hx rfl (hb hby dj52m5_57) rfl) ?_
  refine OGets.step (fun _ => XS.i2c X212.here hx rfl (hb hby dj52m5_58) rfl) ?_
  refine OGets.retN X212 hx hlk (t := .char) Bd.returns (by simp) (hb hby dj52m5_59) (Nat.le_of_ble_eq_true rfl) (Nat.le_of_ble_eq_true rfl) ?_
  exact ⟨rfl, rfl, e212⟩
theorem ef_gch31 (m : MethodId) (x0 : Addr) (x1 : Int32) : entryFrame m #[(.ref x0), (.int x1)] 2 = mkF m 0 #[.val (.ref x0), .val (.int x1)] [] := by first | (simp [entryFrame, mkF, argsToLocals, Value.category]; done) | rfl
def Q_gch31 (Z : State) (b : Addr) (y0 : Int32) (y1 : Int32) (y2 : Int32) (y3 : Int32) (y4 : Int32) (y5 : Int32) (h0 : Heap) (n0 : Nat) (F : List (Addr × OObj)) (v : Option Value) (h : Heap) (L : List Loc) : Prop := v = some (.int (gcv y2 y3)) ∧ L = [] ∧ h = h0
set_option maxRecDepth 65536 in
set_option maxHeartbeats 40000000 in
theorem rm_gch31 (l : Launch) (Z : State) (a0 : Array Value) (hw : ∀ d ∈ tables_1, d.before a0 Z = true) (ws : List Jvm.Cond) (b : Addr) (y0 : Int32) (y1 : Int32) (y2 : Int32) (y3 : Int32) (y4 : Int32) (y5 : Int32) (h0 : Heap) (n0 : Nat) (F : List (Addr × OObj)) (Z0 : n0 ≤ h0.size) (SA : Sta Z Z.heap "java/lang/StringUTF16" "$assertionsDisabled" "Z" (.int (1 : Int32))) (SH : Sta Z Z.heap "java/lang/StringUTF16" "HI_BYTE_SHIFT" "I" (.int (0 : Int32))) (SL : Sta Z Z.heap "java/lang/StringUTF16" "LO_BYTE_SHIFT" "I" (.int (8 : Int32))) (V0 : OView Z n0 h0 (((b, Sum.inr (.byte, [(.int y0), (.int y1), (.int y2), (.int y3), (.int y4), (.int y5)])) : Addr × OObj) :: F)) (O0 : Old Z n0 h0) :
    MetFree l (⟨"java/lang/StringUTF16", "getChar", "([BI)C"⟩ : MethodName) (head1 (Jvm.Cond.code (⟨"java/lang/StringUTF16", "getChar", "([BI)C"⟩ : MethodName) jdk_52_method_5_code 2 (some .char) :: ws) ({ frames := 0, cells := 0, slots := 0, locals := 0 } : Room)) (fun a_ U => a_ = #[(.ref b), (.int (1 : Int32))] ∧ Z.Warmed39 U.vm ∧ U.heap = h0) (fun _ _ _ _ _ => True) (fun _ U o U' => ∃ v L, o = .returned v ∧ Q_gch31 Z b y0 y1 y2 y3 y4 y5 h0 n0 F v U'.heap L ∧ FrameEnd U o U' L ({ frames := 0, cells := 0, slots := 0, locals := 0 } : Room).cells ({ frames := 0, cells := 0, slots := 0, locals := 0 } : Room).slots) := by
  refine MetFree.of_bodySF (plainFor_of_name pn_1) hisR ?_
  intro p e s m args below meth c s₁ Bd hml0 hP hK
  obtain ⟨rfl, hZ, hh⟩ := hP
  have hx := Bd.exec
  have hby := Bd.bytes
  have hlk : meth.locks = false := Bd.notSynchronized
  have hml : c.maxLocals = 2 := hml0
  have hown : s.vm.findClass "java/lang/StringUTF16" = some m.cls := findClass_of_methodNamed Bd.named
  have hnm := (name_of_methodNamed Bd.named Bd.method).1
  have X0 : Stand p l e ({ frames := 0, cells := 0, slots := 0, locals := 0 } : Room) s m #[(.ref b), (.int (1 : Int32))] below meth c s₁ [] 0 0 := Stand.of_body Bd
  have e0 : s₁.heap = h0 := by rw [← hh, Bd.state]; rfl
  have N0 := Fr.nil n0
  show OGets p e below (OLeaves s (Q_gch31 Z b y0 y1 y2 y3 y4 y5 h0 n0 F ) ({ frames := 0, cells := 0, slots := 0, locals := 0 } : Room).cells ({ frames := 0, cells := 0, slots := 0, locals := 0 } : Room).slots) _
  refine OGets.enter (ef_gch31 m b (1 : Int32)) ?_
  show OGets p e below _ (s₁.setTop (mkF m 0 #[.val (.ref b), .val (.int (1 : Int32))] []))
  obtain ⟨T213, X213, e213, st213⟩ := getS2 X0 hx hZ hown (host := "") (Or.inl (hw _ (List.mem_of_getElem? (i := 68) rfl))) Via.refl e0 (SA.ext O0.2) (g := (mkF m 0 #[.val (.ref b), .val (.int (1 : Int32))] [])) rfl (hb hby dj52m5_0)
  refine OGets.step st213 ?_
  refine OGets.step (fun _ => XS.ifYes X213.here hx rfl (pc0 := 3) (pc' := 28) rfl (hb hby dj52m5_3) rfl ((if0 _ _).trans (feq (by decide : ¬ ((1 : Int32) = (0 : Int32)))).2) (by decide) (by decide)) ?_
  refine OGets.step (fun _ => XS.iloadN X213.here hx rfl (hb hby dj52m5_28) rfl) ?_
  refine OGets.step (fun _ => XS.iconst X213.here hx rfl (hb hby dj52m5_29)) ?_
  refine OGets.step (fun _ => XS.ishl X213.here hx rfl (hb hby dj52m5_30) rfl) ?_
  show OGets p e below _ (T213.setTop (mkF m 31 #[.val (.ref b), .val (.int (1 : Int32))] [(.int ((1 : Int32) <<< ((1 : Int32) &&& 31)))]))
  rw [show ((1 : Int32) <<< ((1 : Int32) &&& 31)) = (2 : Int32) from by decide]
  show OGets p e below _ (T213.setTop (mkF m 31 #[.val (.ref b), .val (.int (1 : Int32))] [(.int (2 : Int32))]))
  refine OGets.step (fun _ => XS.istoreN X213.here hx rfl (hb hby dj52m5_31) rfl (l' := #[.val (.ref b), .val (.int (2 : Int32))]) rfl) ?_
  refine OGets.step (fun _ => XS.aloadN X213.here hx rfl (hb hby dj52m5_32) rfl rfl) ?_
  refine OGets.step (fun _ => XS.iloadN X213.here hx rfl (hb hby dj52m5_33) rfl) ?_
  refine OGets.step (fun _ => XS.iinc X213.here hx rfl (hb hby dj52m5_34) rfl (l' := #[.val (.ref b), .val (.int (3 : Int32))]) rfl) ?_
  obtain ⟨cl215, Ar215, S215⟩ := V0.arr 0 rfl
  refine OGets.step (fun _ => X213.baloadBytes hx (j := (2 : Int32)) (v := (.int y2)) (by rw [e213]; exact Ar215.1) (State.isArrayOf_alike hZ.alike Ar215.2.1) Ar215.2.2 (own_inb S215 2 (by decide) (Nat.le_of_ble_eq_true rfl)) (own_get S215 2 (by decide) rfl) (g := (mkF m 37 #[.val (.ref b), .val (.int (3 : Int32))] [(.int (2 : Int32)), (.ref b)])) rfl rfl (hb hby dj52m5_37) _) ?_
  refine OGets.step (fun _ => XS.sipush X213.here hx rfl (hb hby dj52m5_38)) ?_
  show OGets p e below _ (T213.setTop (mkF m 41 #[.val (.ref b), .val (.int (3 : Int32))] [(.int (255 : Int32)), (.int y2)]))
  refine OGets.step (fun _ => XS.iand X213.here hx rfl (hb hby dj52m5_41) rfl) ?_
  obtain ⟨T216, X216, e216, st216⟩ := getS2 X213 hx hZ hown (host := "") (Or.inl (hw _ (List.mem_of_getElem? (i := 69) rfl))) Via.refl e213 (SH.ext O0.2) (g := (mkF m 42 #[.val (.ref b), .val (.int (3 : Int32))] [(.int (y2 &&& (255 : Int32)))])) rfl (hb hby dj52m5_42)
  refine OGets.step st216 ?_
  refine OGets.step (fun _ => XS.ishl X216.here hx rfl (hb hby dj52m5_45) rfl) ?_
  refine OGets.step (fun _ => XS.aloadN X216.here hx rfl (hb hby dj52m5_46) rfl rfl) ?_
  refine OGets.step (fun _ => XS.iloadN X216.here hx rfl (hb hby dj52m5_47) rfl) ?_
  obtain ⟨cl217, Ar217, S217⟩ := V0.arr 0 rfl
  refine OGets.step (fun _ => X216.baloadBytes hx (j := (3 : Int32)) (v := (.int y3)) (by rw [e216]; exact Ar217.1) (State.isArrayOf_alike hZ.alike Ar217.2.1) Ar217.2.2 (own_inb S217 3 (by decide) (Nat.le_of_ble_eq_true rfl)) (own_get S217 3 (by decide) rfl) (g := (mkF m 48 #[.val (.ref b), .val (.int (3 : Int32))] [(.int (3 : Int32)), (.ref b), (.int ((y2 &&& (255 : Int32)) <<< ((0 : Int32) &&& 31)))])) rfl rfl (hb hby dj52m5_48) _) ?_
  refine OGets.step (fun _ => XS.sipush X216.here hx rfl (hb hby dj52m5_49)) ?_
  show OGets p e below _ (T216.setTop (mkF m 52 #[.val (.ref b), .val (.int (3 : Int32))] [(.int (255 : Int32)), (.int y3), (.int ((y2 &&& (255 : Int32)) <<< ((0 : Int32) &&& 31)))]))
  refine OGets.step (fun _ => XS.iand X216.here hx rfl (hb hby dj52m5_52) rfl) ?_
  obtain ⟨T218, X218, e218, st218⟩ := getS2 X216 hx hZ hown (host := "") (Or.inl (hw _ (List.mem_of_getElem? (i := 70) rfl))) Via.refl e216 (SL.ext O0.2) (g := (mkF m 53 #[.val (.ref b), .val (.int (3 : Int32))] [(.int (y3 &&& (255 : Int32))), (.int ((y2 &&& (255 : Int32)) <<< ((0 : Int32) &&& 31)))])) rfl (hb hby dj52m5_53)
  refine OGets.step st218 ?_
  refine OGets.step (fun _ => XS.ishl X218.here hx rfl (hb hby dj52m5_56) rfl) ?_
  refine OGets.step (fun _ => XS.ior X218.here hx rfl (hb hby dj52m5_57) rfl) ?_
  refine OGets.step (fun _ => XS.i2c X218.here hx rfl (hb hby dj52m5_58) rfl) ?_
  refine OGets.retN X218 hx hlk (t := .char) Bd.returns (by simp) (hb hby dj52m5_59) (Nat.le_of_ble_eq_true rfl) (Nat.le_of_ble_eq_true rfl) ?_
  exact ⟨rfl, rfl, e218⟩
theorem ef_gch32 (m : MethodId) (x0 : Addr) (x1 : Int32) : entryFrame m #[(.ref x0), (.int x1)] 2 = mkF m 0 #[.val (.ref x0), .val (.int x1)] [] := by first | (simp [entryFrame, mkF, argsToLocals, Value.category]; done) | rfl
def Q_gch32 (Z : State) (b : Addr) (y0 : Int32) (y1 : Int32) (y2 : Int32) (y3 : Int32) (y4 : Int32) (y5 : Int32) (h0 : Heap) (n0 : Nat) (F : List (Addr × OObj)) (v : Option Value) (h : Heap) (L : List Loc) : Prop := v = some (.int (gcv y4 y5)) ∧ L = [] ∧ h = h0
set_option maxRecDepth 65536 in
set_option maxHeartbeats 40000000 in
theorem rm_gch32 (l : Launch) (Z : State) (a0 : Array Value) (hw : ∀ d ∈ tables_1, d.before a0 Z = true) (ws : List Jvm.Cond) (b : Addr) (y0 : Int32) (y1 : Int32) (y2 : Int32) (y3 : Int32) (y4 : Int32) (y5 : Int32) (h0 : Heap) (n0 : Nat) (F : List (Addr × OObj)) (Z0 : n0 ≤ h0.size) (SA : Sta Z Z.heap "java/lang/StringUTF16" "$assertionsDisabled" "Z" (.int (1 : Int32))) (SH : Sta Z Z.heap "java/lang/StringUTF16" "HI_BYTE_SHIFT" "I" (.int (0 : Int32))) (SL : Sta Z Z.heap "java/lang/StringUTF16" "LO_BYTE_SHIFT" "I" (.int (8 : Int32))) (V0 : OView Z n0 h0 (((b, Sum.inr (.byte, [(.int y0), (.int y1), (.int y2), (.int y3), (.int y4), (.int y5)])) : Addr × OObj) :: F)) (O0 : Old Z n0 h0) :
    MetFree l (⟨"java/lang/StringUTF16", "getChar", "([BI)C"⟩ : MethodName) (head1 (Jvm.Cond.code (⟨"java/lang/StringUTF16", "getChar", "([BI)C"⟩ : MethodName) jdk_52_method_5_code 2 (some .char) :: ws) ({ frames := 0, cells := 0, slots := 0, locals := 0 } : Room)) (fun a_ U => a_ = #[(.ref b), (.int (2 : Int32))] ∧ Z.Warmed39 U.vm ∧ U.heap = h0) (fun _ _ _ _ _ => True) (fun _ U o U' => ∃ v L, o = .returned v ∧ Q_gch32 Z b y0 y1 y2 y3 y4 y5 h0 n0 F v U'.heap L ∧ FrameEnd U o U' L ({ frames := 0, cells := 0, slots := 0, locals := 0 } : Room).cells ({ frames := 0, cells := 0, slots := 0, locals := 0 } : Room).slots) := by
  refine MetFree.of_bodySF (plainFor_of_name pn_1) hisR ?_
  intro p e s m args below meth c s₁ Bd hml0 hP hK
  obtain ⟨rfl, hZ, hh⟩ := hP
  have hx := Bd.exec
  have hby := Bd.bytes
  have hlk : meth.locks = false := Bd.notSynchronized
  have hml : c.maxLocals = 2 := hml0
  have hown : s.vm.findClass "java/lang/StringUTF16" = some m.cls := findClass_of_methodNamed Bd.named
  have hnm := (name_of_methodNamed Bd.named Bd.method).1
  have X0 : Stand p l e ({ frames := 0, cells := 0, slots := 0, locals := 0 } : Room) s m #[(.ref b), (.int (2 : Int32))] below meth c s₁ [] 0 0 := Stand.of_body Bd
  have e0 : s₁.heap = h0 := by rw [← hh, Bd.state]; rfl
  have N0 := Fr.nil n0
  show OGets p e below (OLeaves s (Q_gch32 Z b y0 y1 y2 y3 y4 y5 h0 n0 F ) ({ frames := 0, cells := 0, slots := 0, locals := 0 } : Room).cells ({ frames := 0, cells := 0, slots := 0, locals := 0 } : Room).slots) _
  refine OGets.enter (ef_gch32 m b (2 : Int32)) ?_
  show OGets p e below _ (s₁.setTop (mkF m 0 #[.val (.ref b), .val (.int (2 : Int32))] []))
  obtain ⟨T219, X219, e219, st219⟩ := getS2 X0 hx hZ hown (host := "") (Or.inl (hw _ (List.mem_of_getElem? (i := 68) rfl))) Via.refl e0 (SA.ext O0.2) (g := (mkF m 0 #[.val (.ref b), .val (.int (2 : Int32))] [])) rfl (hb hby dj52m5_0)
  refine OGets.step st219 ?_
  refine OGets.step (fun _ => XS.ifYes X219.here hx rfl (pc0 := 3) (pc' := 28) rfl (hb hby dj52m5_3) rfl ((if0 _ _).trans (feq (by decide : ¬ ((1 : Int32) = (0 : Int32)))).2) (by decide) (by decide)) ?_
  refine OGets.step (fun _ => XS.iloadN X219.here hx rfl (hb hby dj52m5_28) rfl) ?_
  refine OGets.step (fun _ => XS.iconst X219.here hx rfl (hb hby dj52m5_29)) ?_
  refine OGets.step (fun _ => XS.ishl X219.here hx rfl (hb hby dj52m5_30) rfl) ?_
  show OGets p e below _ (T219.setTop (mkF m 31 #[.val (.ref b), .val (.int (2 : Int32))] [(.int ((2 : Int32) <<< ((1 : Int32) &&& 31)))]))
  rw [show ((2 : Int32) <<< ((1 : Int32) &&& 31)) = (4 : Int32) from by decide]
  show OGets p e below _ (T219.setTop (mkF m 31 #[.val (.ref b), .val (.int (2 : Int32))] [(.int (4 : Int32))]))
  refine OGets.step (fun _ => XS.istoreN X219.here hx rfl (hb hby dj52m5_31) rfl (l' := #[.val (.ref b), .val (.int (4 : Int32))]) rfl) ?_
  refine OGets.step (fun _ => XS.aloadN X219.here hx rfl (hb hby dj52m5_32) rfl rfl) ?_
  refine OGets.step (fun _ => XS.iloadN X219.here hx rfl (hb hby dj52m5_33) rfl) ?_
  refine OGets.step (fun _ => XS.iinc X219.here hx rfl (hb hby dj52m5_34) rfl (l' := #[.val (.ref b), .val (.int (5 : Int32))]) rfl) ?_
  obtain ⟨cl221, Ar221, S221⟩ := V0.arr 0 rfl
  refine OGets.step (fun _ => X219.baloadBytes hx (j := (4 : Int32)) (v := (.int y4)) (by rw [e219]; exact Ar221.1) (State.isArrayOf_alike hZ.alike Ar221.2.1) Ar221.2.2 (own_inb S221 4 (by decide) (Nat.le_of_ble_eq_true rfl)) (own_get S221 4 (by decide) rfl) (g := (mkF m 37 #[.val (.ref b), .val (.int (5 : Int32))] [(.int (4 : Int32)), (.ref b)])) rfl rfl (hb hby dj52m5_37) _) ?_
  refine OGets.step (fun _ => XS.sipush X219.here hx rfl (hb hby dj52m5_38)) ?_
  show OGets p e below _ (T219.setTop (mkF m 41 #[.val (.ref b), .val (.int (5 : Int32))] [(.int (255 : Int32)), (.int y4)]))
  refine OGets.step (fun _ => XS.iand X219.here hx rfl (hb hby dj52m5_41) rfl) ?_
  obtain ⟨T222, X222, e222, st222⟩ := getS2 X219 hx hZ hown (host := "") (Or.inl (hw _ (List.mem_of_getElem? (i := 69) rfl))) Via.refl e219 (SH.ext O0.2) (g := (mkF m 42 #[.val (.ref b), .val (.int (5 : Int32))] [(.int (y4 &&& (255 : Int32)))])) rfl (hb hby dj52m5_42)
  refine OGets.step st222 ?_
  refine OGets.step (fun _ => XS.ishl X222.here hx rfl (hb hby dj52m5_45) rfl) ?_
  refine OGets.step (fun _ => XS.aloadN X222.here hx rfl (hb hby dj52m5_46) rfl rfl) ?_
  refine OGets.step (fun _ => XS.iloadN X222.here hx rfl (hb hby dj52m5_47) rfl) ?_
  obtain ⟨cl223, Ar223, S223⟩ := V0.arr 0 rfl
  refine OGets.step (fun _ => X222.baloadBytes hx (j := (5 : Int32)) (v := (.int y5)) (by rw [e222]; exact Ar223.1) (State.isArrayOf_alike hZ.alike Ar223.2.1) Ar223.2.2 (own_inb S223 5 (by decide) (Nat.le_of_ble_eq_true rfl)) (own_get S223 5 (by decide) rfl) (g := (mkF m 48 #[.val (.ref b), .val (.int (5 : Int32))] [(.int (5 : Int32)), (.ref b), (.int ((y4 &&& (255 : Int32)) <<< ((0 : Int32) &&& 31)))])) rfl rfl (hb hby dj52m5_48) _) ?_
  refine OGets.step (fun _ => XS.sipush X222.here hx rfl (hb hby dj52m5_49)) ?_
  show OGets p e below _ (T222.setTop (mkF m 52 #[.val (.ref b), .val (.int (5 : Int32))] [(.int (255 : Int32)), (.int y5), (.int ((y4 &&& (255 : Int32)) <<< ((0 : Int32) &&& 31)))]))
  refine OGets.step (fun _ => XS.iand X222.here hx rfl (hb hby dj52m5_52) rfl) ?_
  obtain ⟨T224, X224, e224, st224⟩ := getS2 X222 hx hZ hown (host := "") (Or.inl (hw _ (List.mem_of_getElem? (i := 70) rfl))) Via.refl e222 (SL.ext O0.2) (g := (mkF m 53 #[.val (.ref b), .val (.int (5 : Int32))] [(.int (y5 &&& (255 : Int32))), (.int ((y4 &&& (255 : Int32)) <<< ((0 : Int32) &&& 31)))])) rfl (hb hby dj52m5_53)
  refine OGets.step st224 ?_
  refine OGets.step (fun _ => XS.ishl X224.here hx rfl (hb hby dj52m5_56) rfl) ?_
  refine OGets.step (fun _ => XS.ior X224.here hx rfl (hb hby dj52m5_57) rfl) ?_
  refine OGets.step (fun _ => XS.i2c X224.here hx rfl (hb hby dj52m5_58) rfl) ?_
  refine OGets.retN X224 hx hlk (t := .char) Bd.returns (by simp) (hb hby dj52m5_59) (Nat.le_of_ble_eq_true rfl) (Nat.le_of_ble_eq_true rfl) ?_
  exact ⟨rfl, rfl, e224⟩
theorem ef_cfl30 (m : MethodId) (x0 : Addr) (x1 : Int32) : entryFrame m #[(.ref x0), (.int x1)] 2 = mkF m 0 #[.val (.ref x0), .val (.int x1)] [] := by first | (simp [entryFrame, mkF, argsToLocals, Value.category]; done) | rfl
def Q_cfl30 (Z : State) (b : Addr) (y0 : Int32) (y1 : Int32) (y2 : Int32) (h0 : Heap) (n0 : Nat) (F : List (Addr × OObj)) (v : Option Value) (h : Heap) (L : List Loc) : Prop := v = some (.int (0 : Int32)) ∧ L = [] ∧ h = h0
set_option maxRecDepth 65536 in
set_option maxHeartbeats 40000000 in
theorem rm_cfl30 (l : Launch) (Z : State) (a0 : Array Value) (hw : ∀ d ∈ tables_1, d.before a0 Z = true) (ws : List Jvm.Cond) (b : Addr) (y0 : Int32) (y1 : Int32) (y2 : Int32) (h0 : Heap) (n0 : Nat) (F : List (Addr × OObj)) (Z0 : n0 ≤ h0.size) (V0 : OView Z n0 h0 (((b, Sum.inr (.byte, [(.int y0), (.int y1), (.int y2)])) : Addr × OObj) :: F)) :
    MetFree l (⟨"java/lang/StringUTF16", "coderFromArrayLen", "([BI)B"⟩ : MethodName) (head1 (Jvm.Cond.code (⟨"java/lang/StringUTF16", "coderFromArrayLen", "([BI)B"⟩ : MethodName) jdk_52_method_15_code 2 (some .byte) :: ws) ({ frames := 0, cells := 0, slots := 0, locals := 0 } : Room)) (fun a_ U => a_ = #[(.ref b), (.int (3 : Int32))] ∧ Z.Warmed39 U.vm ∧ U.heap = h0) (fun _ _ _ _ _ => True) (fun _ U o U' => ∃ v L, o = .returned v ∧ Q_cfl30 Z b y0 y1 y2 h0 n0 F v U'.heap L ∧ FrameEnd U o U' L ({ frames := 0, cells := 0, slots := 0, locals := 0 } : Room).cells ({ frames := 0, cells := 0, slots := 0, locals := 0 } : Room).slots) := by
  refine MetFree.of_bodySF (plainFor_of_name pn_1) hisR ?_
  intro p e s m args below meth c s₁ Bd hml0 hP hK
  obtain ⟨rfl, hZ, hh⟩ := hP
  have hx := Bd.exec
  have hby := Bd.bytes
  have hlk : meth.locks = false := Bd.notSynchronized
  have hml : c.maxLocals = 2 := hml0
  have hown : s.vm.findClass "java/lang/StringUTF16" = some m.cls := findClass_of_methodNamed Bd.named
  have hnm := (name_of_methodNamed Bd.named Bd.method).1
  have X0 : Stand p l e ({ frames := 0, cells := 0, slots := 0, locals := 0 } : Room) s m #[(.ref b), (.int (3 : Int32))] below meth c s₁ [] 0 0 := Stand.of_body Bd
  have e0 : s₁.heap = h0 := by rw [← hh, Bd.state]; rfl
  have N0 := Fr.nil n0
  show OGets p e below (OLeaves s (Q_cfl30 Z b y0 y1 y2 h0 n0 F ) ({ frames := 0, cells := 0, slots := 0, locals := 0 } : Room).cells ({ frames := 0, cells := 0, slots := 0, locals := 0 } : Room).slots) _
  refine OGets.enter (ef_cfl30 m b (3 : Int32)) ?_
  show OGets p e below _ (s₁.setTop (mkF m 0 #[.val (.ref b), .val (.int (3 : Int32))] []))
  refine OGets.step (fun _ => XS.iloadN X0.here hx rfl (hb hby dj52m15_0) rfl) ?_
  refine OGets.step (fun _ => XS.aloadN X0.here hx rfl (hb hby dj52m15_1) rfl rfl) ?_
  obtain ⟨cl225, Ar225, S225⟩ := V0.arr 0 rfl
  have ln225 : cl225.slots.size.toInt32 = (3 : Int32) := by rw [own_len S225]; rfl
  refine OGets.step (U' := s₁.setTop (mkF m 3 #[.val (.ref b), .val (.int (3 : Int32))] [(.int (3 : Int32)), (.int (3 : Int32))])) (fun t kt => ?_) ?_
  · refine X0.arraylength hx (by rw [e0]; exact Ar225.1) (State.isArrayOf_alike hZ.alike Ar225.2.1) (g := (mkF m 2 #[.val (.ref b), .val (.int (3 : Int32))] [(.ref b), (.int (3 : Int32))])) rfl rfl (hb hby dj52m15_2) _ ?_
    rw [ln225]; exact kt
  refine OGets.step (fun _ => XS.isub X0.here hx rfl (hb hby dj52m15_3) rfl) ?_
  show OGets p e below _ (s₁.setTop (mkF m 4 #[.val (.ref b), .val (.int (3 : Int32))] [(.int (0 : Int32))]))
  refine OGets.step (fun _ => XS.bipush X0.here hx rfl (hb hby dj52m15_4)) ?_
  refine OGets.step (fun _ => XS.iushr X0.here hx rfl (hb hby dj52m15_6) rfl) ?_
  show OGets p e below _ (s₁.setTop (mkF m 7 #[.val (.ref b), .val (.int (3 : Int32))] [(.int (((0 : Int32).toUInt32 >>> ((31 : Int32) &&& 31).toUInt32).toInt32))]))
  rw [show (((0 : Int32).toUInt32 >>> ((31 : Int32) &&& 31).toUInt32).toInt32) = (0 : Int32) from by decide]
  show OGets p e below _ (s₁.setTop (mkF m 7 #[.val (.ref b), .val (.int (3 : Int32))] [(.int (0 : Int32))]))
  refine OGets.step (fun _ => XS.i2b X0.here hx rfl (hb hby dj52m15_7) rfl) ?_
  refine OGets.retN X0 hx hlk (t := .byte) Bd.returns (by simp) (hb hby dj52m15_8) (Nat.le_of_ble_eq_true rfl) (Nat.le_of_ble_eq_true rfl) ?_
  exact ⟨congrArg (fun z => some (Value.int z)) (show _ = (0 : Int32) from by decide), rfl, e0⟩
theorem ef_cfl31 (m : MethodId) (x0 : Addr) (x1 : Int32) : entryFrame m #[(.ref x0), (.int x1)] 2 = mkF m 0 #[.val (.ref x0), .val (.int x1)] [] := by first | (simp [entryFrame, mkF, argsToLocals, Value.category]; done) | rfl
def Q_cfl31 (Z : State) (b : Addr) (y0 : Int32) (y1 : Int32) (y2 : Int32) (y3 : Int32) (y4 : Int32) (y5 : Int32) (h0 : Heap) (n0 : Nat) (F : List (Addr × OObj)) (v : Option Value) (h : Heap) (L : List Loc) : Prop := v = some (.int (1 : Int32)) ∧ L = [] ∧ h = h0
set_option maxRecDepth 65536 in
set_option maxHeartbeats 40000000 in
theorem rm_cfl31 (l : Launch) (Z : State) (a0 : Array Value) (hw : ∀ d ∈ tables_1, d.before a0 Z = true) (ws : List Jvm.Cond) (b : Addr) (y0 : Int32) (y1 : Int32) (y2 : Int32) (y3 : Int32) (y4 : Int32) (y5 : Int32) (h0 : Heap) (n0 : Nat) (F : List (Addr × OObj)) (Z0 : n0 ≤ h0.size) (V0 : OView Z n0 h0 (((b, Sum.inr (.byte, [(.int y0), (.int y1), (.int y2), (.int y3), (.int y4), (.int y5)])) : Addr × OObj) :: F)) :
    MetFree l (⟨"java/lang/StringUTF16", "coderFromArrayLen", "([BI)B"⟩ : MethodName) (head1 (Jvm.Cond.code (⟨"java/lang/StringUTF16", "coderFromArrayLen", "([BI)B"⟩ : MethodName) jdk_52_method_15_code 2 (some .byte) :: ws) ({ frames := 0, cells := 0, slots := 0, locals := 0 } : Room)) (fun a_ U => a_ = #[(.ref b), (.int (3 : Int32))] ∧ Z.Warmed39 U.vm ∧ U.heap = h0) (fun _ _ _ _ _ => True) (fun _ U o U' => ∃ v L, o = .returned v ∧ Q_cfl31 Z b y0 y1 y2 y3 y4 y5 h0 n0 F v U'.heap L ∧ FrameEnd U o U' L ({ frames := 0, cells := 0, slots := 0, locals := 0 } : Room).cells ({ frames := 0, cells := 0, slots := 0, locals := 0 } : Room).slots) := by
  refine MetFree.of_bodySF (plainFor_of_name pn_1) hisR ?_
  intro p e s m args below meth c s₁ Bd hml0 hP hK
  obtain ⟨rfl, hZ, hh⟩ := hP
  have hx := Bd.exec
  have hby := Bd.bytes
  have hlk : meth.locks = false := Bd.notSynchronized
  have hml : c.maxLocals = 2 := hml0
  have hown : s.vm.findClass "java/lang/StringUTF16" = some m.cls := findClass_of_methodNamed Bd.named
  have hnm := (name_of_methodNamed Bd.named Bd.method).1
  have X0 : Stand p l e ({ frames := 0, cells := 0, slots := 0, locals := 0 } : Room) s m #[(.ref b), (.int (3 : Int32))] below meth c s₁ [] 0 0 := Stand.of_body Bd
  have e0 : s₁.heap = h0 := by rw [← hh, Bd.state]; rfl
  have N0 := Fr.nil n0
  show OGets p e below (OLeaves s (Q_cfl31 Z b y0 y1 y2 y3 y4 y5 h0 n0 F ) ({ frames := 0, cells := 0, slots := 0, locals := 0 } : Room).cells ({ frames := 0, cells := 0, slots := 0, locals := 0 } : Room).slots) _
  refine OGets.enter (ef_cfl31 m b (3 : Int32)) ?_
  show OGets p e below _ (s₁.setTop (mkF m 0 #[.val (.ref b), .val (.int (3 : Int32))] []))
  refine OGets.step (fun _ => XS.iloadN X0.here hx rfl (hb hby dj52m15_0) rfl) ?_
  refine OGets.step (fun _ => XS.aloadN X0.here hx rfl (hb hby dj52m15_1) rfl rfl) ?_
  obtain ⟨cl226, Ar226, S226⟩ := V0.arr 0 rfl
  have ln226 : cl226.slots.size.toInt32 = (6 : Int32) := by rw [own_len S226]; rfl
  refine OGets.step (U' := s₁.setTop (mkF m 3 #[.val (.ref b), .val (.int (3 : Int32))] [(.int (6 : Int32)), (.int (3 : Int32))])) (fun t kt => ?_) ?_
  · refine X0.arraylength hx (by rw [e0]; exact Ar226.1) (State.isArrayOf_alike hZ.alike Ar226.2.1) (g := (mkF m 2 #[.val (.ref b), .val (.int (3 : Int32))] [(.ref b), (.int (3 : Int32))])) rfl rfl (hb hby dj52m15_2) _ ?_
    rw [ln226]; exact kt
  refine OGets.step (fun _ => XS.isub X0.here hx rfl (hb hby dj52m15_3) rfl) ?_
  show OGets p e below _ (s₁.setTop (mkF m 4 #[.val (.ref b), .val (.int (3 : Int32))] [(.int (-3 : Int32))]))
  refine OGets.step (fun _ => XS.bipush X0.here hx rfl (hb hby dj52m15_4)) ?_
  refine OGets.step (fun _ => XS.iushr X0.here hx rfl (hb hby dj52m15_6) rfl) ?_
  show OGets p e below _ (s₁.setTop (mkF m 7 #[.val (.ref b), .val (.int (3 : Int32))] [(.int (((-3 : Int32).toUInt32 >>> ((31 : Int32) &&& 31).toUInt32).toInt32))]))
  rw [show (((-3 : Int32).toUInt32 >>> ((31 : Int32) &&& 31).toUInt32).toInt32) = (1 : Int32) from by decide]
  show OGets p e below _ (s₁.setTop (mkF m 7 #[.val (.ref b), .val (.int (3 : Int32))] [(.int (1 : Int32))]))
  refine OGets.step (fun _ => XS.i2b X0.here hx rfl (hb hby dj52m15_7) rfl) ?_
  refine OGets.retN X0 hx hlk (t := .byte) Bd.returns (by simp) (hb hby dj52m15_8) (Nat.le_of_ble_eq_true rfl) (Nat.le_of_ble_eq_true rfl) ?_
  exact ⟨congrArg (fun z => some (Value.int z)) (show _ = (1 : Int32) from by decide), rfl, e0⟩
theorem ef_c5_30 (m : MethodId) (x0 : Addr) (x1 : Int32) (x2 : Addr) (x3 : Int32) (x4 : Int32) : entryFrame m #[(.ref x0), (.int x1), (.ref x2), (.int x3), (.int x4)] 7 = mkF m 0 #[.val (.ref x0), .val (.int x1), .val (.ref x2), .val (.int x3), .val (.int x4), .unset, .unset] [] := by first | (simp [entryFrame, mkF, argsToLocals, Value.category]; done) | rfl
def Q_c5_30 (Z : State) (a : Addr) (b : Addr) (c0 : Int32) (c1 : Int32) (c2 : Int32) (h0 : Heap) (n0 : Nat) (F : List (Addr × OObj)) (v : Option Value) (h : Heap) (L : List Loc) : Prop := v = some (.int (0 : Int32)) ∧ Fr n0 L ∧ OView Z n0 h (((a, Sum.inr (.char, [(.int c0), (.int c1), (.int c2)])) : Addr × OObj) :: ((b, Sum.inr (.byte, [(.int (0 : Int32)), (.int (0 : Int32)), (.int (0 : Int32))])) : Addr × OObj) :: F) ∧ Old Z n0 h
set_option maxRecDepth 65536 in
set_option maxHeartbeats 40000000 in
theorem rm_c5_30 (l : Launch) (Z : State) (a0 : Array Value) (hw : ∀ d ∈ tables_1, d.before a0 Z = true) (ws : List Jvm.Cond) (a : Addr) (b : Addr) (c0 : Int32) (c1 : Int32) (c2 : Int32) (h0 : Heap) (n0 : Nat) (F : List (Addr × OObj)) (Z0 : n0 ≤ h0.size) (u0 : (255 : Int32) < c0) (V0 : OView Z n0 h0 (((a, Sum.inr (.char, [(.int c0), (.int c1), (.int c2)])) : Addr × OObj) :: ((b, Sum.inr (.byte, [(.int (0 : Int32)), (.int (0 : Int32)), (.int (0 : Int32))])) : Addr × OObj) :: F)) (O0 : Old Z n0 h0) :
    MetFree l (⟨"java/lang/StringUTF16", "compress", "([CI[BII)I"⟩ : MethodName) (head1 (Jvm.Cond.code (⟨"java/lang/StringUTF16", "compress", "([CI[BII)I"⟩ : MethodName) jdk_52_method_21_code 7 (some .int) :: ws) ({ frames := 0, cells := 0, slots := 0, locals := 0 } : Room)) (fun a_ U => a_ = #[(.ref a), (.int (0 : Int32)), (.ref b), (.int (0 : Int32)), (.int (3 : Int32))] ∧ Z.Warmed39 U.vm ∧ U.heap = h0) (fun _ _ _ _ _ => True) (fun _ U o U' => ∃ v L, o = .returned v ∧ Q_c5_30 Z a b c0 c1 c2 h0 n0 F v U'.heap L ∧ FrameEnd U o U' L ({ frames := 0, cells := 0, slots := 0, locals := 0 } : Room).cells ({ frames := 0, cells := 0, slots := 0, locals := 0 } : Room).slots) := by
  refine MetFree.of_bodySF (plainFor_of_name pn_1) hisR ?_
  intro p e s m args below meth c s₁ Bd hml0 hP hK
  obtain ⟨rfl, hZ, hh⟩ := hP
  have hx := Bd.exec
  have hby := Bd.bytes
  have hlk : meth.locks = false := Bd.notSynchronized
  have hml : c.maxLocals = 7 := hml0
  have hown : s.vm.findClass "java/lang/StringUTF16" = some m.cls := findClass_of_methodNamed Bd.named
  have hnm := (name_of_methodNamed Bd.named Bd.method).1
  have X0 : Stand p l e ({ frames := 0, cells := 0, slots := 0, locals := 0 } : Room) s m #[(.ref a), (.int (0 : Int32)), (.ref b), (.int (0 : Int32)), (.int (3 : Int32))] below meth c s₁ [] 0 0 := Stand.of_body Bd
  have e0 : s₁.heap = h0 := by rw [← hh, Bd.state]; rfl
  have N0 := Fr.nil n0
  show OGets p e below (OLeaves s (Q_c5_30 Z a b c0 c1 c2 h0 n0 F ) ({ frames := 0, cells := 0, slots := 0, locals := 0 } : Room).cells ({ frames := 0, cells := 0, slots := 0, locals := 0 } : Room).slots) _
  refine OGets.enter (ef_c5_30 m a (0 : Int32) b (0 : Int32) (3 : Int32)) ?_
  show OGets p e below _ (s₁.setTop (mkF m 0 #[.val (.ref a), .val (.int (0 : Int32)), .val (.ref b), .val (.int (0 : Int32)), .val (.int (3 : Int32)), .unset, .unset] []))
  refine OGets.step (fun _ => XS.iconst X0.here hx rfl (hb hby dj52m21_0)) ?_
  refine OGets.step (fun _ => XS.istore X0.here hx rfl (hb hby dj52m21_1) rfl (l' := #[.val (.ref a), .val (.int (0 : Int32)), .val (.ref b), .val (.int (0 : Int32)), .val (.int (3 : Int32)), .val (.int (0 : Int32)), .unset]) rfl) ?_
  refine OGets.step (fun _ => XS.iload X0.here hx rfl (hb hby dj52m21_3) rfl) ?_
  refine OGets.step (fun _ => XS.iload X0.here hx rfl (hb hby dj52m21_5) rfl) ?_
  refine OGets.step (fun _ => XS.icmpNo X0.here hx rfl (hb hby dj52m21_7) rfl (tlt (by decide : (0 : Int32) < (3 : Int32))).2.1) ?_
  refine OGets.step (fun _ => XS.aloadN X0.here hx rfl (hb hby dj52m21_10) rfl rfl) ?_
  show OGets p e below _ (s₁.setTop (mkF m 11 #[.val (.ref a), .val (.int (0 : Int32)), .val (.ref b), .val (.int (0 : Int32)), .val (.int (3 : Int32)), .val (.int (0 : Int32)), .unset] [(.ref a)]))
  refine OGets.step (fun _ => XS.iloadN X0.here hx rfl (hb hby dj52m21_11) rfl) ?_
  obtain ⟨cl228, Ar228, S228⟩ := V0.arr 0 rfl
  refine OGets.step (fun _ => X0.caload hx (j := (0 : Int32)) (v := (.int c0)) (by rw [e0]; exact Ar228.1) (State.isArrayOf_alike hZ.alike Ar228.2.1) Ar228.2.2 (own_inb S228 0 (by decide) (Nat.le_of_ble_eq_true rfl)) (own_get S228 0 (by decide) rfl) (g := (mkF m 12 #[.val (.ref a), .val (.int (0 : Int32)), .val (.ref b), .val (.int (0 : Int32)), .val (.int (3 : Int32)), .val (.int (0 : Int32)), .unset] [(.int (0 : Int32)), (.ref a)])) rfl rfl (hb hby dj52m21_12) _) ?_
  refine OGets.step (fun _ => XS.istore X0.here hx rfl (hb hby dj52m21_13) rfl (l' := #[.val (.ref a), .val (.int (0 : Int32)), .val (.ref b), .val (.int (0 : Int32)), .val (.int (3 : Int32)), .val (.int (0 : Int32)), .val (.int c0)]) rfl) ?_
  refine OGets.step (fun _ => XS.iload X0.here hx rfl (hb hby dj52m21_15) rfl) ?_
  refine OGets.step (fun _ => XS.sipush X0.here hx rfl (hb hby dj52m21_17)) ?_
  refine OGets.step (fun _ => XS.icmpNo X0.here hx rfl (hb hby dj52m21_20) rfl (tlt (u0 : (255 : Int32) < c0)).2.2.2) ?_
  show OGets p e below _ (s₁.setTop (mkF m 23 #[.val (.ref a), .val (.int (0 : Int32)), .val (.ref b), .val (.int (0 : Int32)), .val (.int (3 : Int32)), .val (.int (0 : Int32)), .val (.int c0)] []))
  refine OGets.step (fun _ => XS.iload X0.here hx rfl (hb hby dj52m21_23) rfl) ?_
  refine OGets.retI X0 hx hlk Bd.returns (hb hby dj52m21_25) (Nat.le_of_ble_eq_true rfl) (Nat.le_of_ble_eq_true rfl) ?_
  rw [e0]
  exact ⟨rfl, N0, V0, O0⟩
theorem ef_c3_30 (m : MethodId) (x0 : Addr) (x1 : Int32) (x2 : Int32) : entryFrame m #[(.ref x0), (.int x1), (.int x2)] 6 = mkF m 0 #[.val (.ref x0), .val (.int x1), .val (.int x2), .unset, .unset, .unset] [] := by first | (simp [entryFrame, mkF, argsToLocals, Value.category]; done) | rfl
def Q_c3_30 (Z : State) (a : Addr) (c0 : Int32) (c1 : Int32) (c2 : Int32) (h0 : Heap) (n0 : Nat) (F : List (Addr × OObj)) (v : Option Value) (h : Heap) (L : List Loc) : Prop := ∃ b : Addr, v = some (.ref b) ∧ Fr n0 L ∧ OView Z n0 h (((b, Sum.inr (.byte, [(.int (hb' c0)), (.int (lb' c0)), (.int (hb' c1)), (.int (lb' c1)), (.int (hb' c2)), (.int (lb' c2))])) : Addr × OObj) :: ((a, Sum.inr (.char, [(.int c0), (.int c1), (.int c2)])) : Addr × OObj) :: F) ∧ Old Z n0 h
set_option maxRecDepth 65536 in
set_option maxHeartbeats 40000000 in
theorem rm_c3_30 (l : Launch) (Z : State) (a0 : Array Value) (hw : ∀ d ∈ tables_1, d.before a0 Z = true) (ws : List Jvm.Cond) (a : Addr) (c0 : Int32) (c1 : Int32) (c2 : Int32) (h0 : Heap) (n0 : Nat) (F : List (Addr × OObj)) (Z0 : n0 ≤ h0.size) (SA : Sta Z Z.heap "java/lang/StringUTF16" "$assertionsDisabled" "Z" (.int (1 : Int32))) (SH : Sta Z Z.heap "java/lang/StringUTF16" "HI_BYTE_SHIFT" "I" (.int (0 : Int32))) (SL : Sta Z Z.heap "java/lang/StringUTF16" "LO_BYTE_SHIFT" "I" (.int (8 : Int32))) (u0 : (255 : Int32) < c0) (w0 : Ch c0) (V0 : OView Z n0 h0 (((a, Sum.inr (.char, [(.int c0), (.int c1), (.int c2)])) : Addr × OObj) :: F)) (O0 : Old Z n0 h0) :
    MetFree l (⟨"java/lang/StringUTF16", "compress", "([CII)[B"⟩ : MethodName) (head1 (Jvm.Cond.code (⟨"java/lang/StringUTF16", "compress", "([CII)[B"⟩ : MethodName) jdk_52_method_16_code 6 (some (.array .byte)) :: ws) ({ frames := 3, cells := 2, slots := 9, locals := 40 } : Room)) (fun a_ U => a_ = #[(.ref a), (.int (0 : Int32)), (.int (3 : Int32))] ∧ Z.Warmed39 U.vm ∧ U.heap = h0) (fun _ _ _ _ _ => True) (fun _ U o U' => ∃ v L, o = .returned v ∧ Q_c3_30 Z a c0 c1 c2 h0 n0 F v U'.heap L ∧ FrameEnd U o U' L ({ frames := 3, cells := 2, slots := 9, locals := 40 } : Room).cells ({ frames := 3, cells := 2, slots := 9, locals := 40 } : Room).slots) := by
  refine MetFree.of_bodySF (plainFor_of_name pn_1) hisR ?_
  intro p e s m args below meth c s₁ Bd hml0 hP hK
  obtain ⟨rfl, hZ, hh⟩ := hP
  have hx := Bd.exec
  have hby := Bd.bytes
  have hlk : meth.locks = false := Bd.notSynchronized
  have hml : c.maxLocals = 6 := hml0
  have hown : s.vm.findClass "java/lang/StringUTF16" = some m.cls := findClass_of_methodNamed Bd.named
  have hnm := (name_of_methodNamed Bd.named Bd.method).1
  have X0 : Stand p l e ({ frames := 3, cells := 2, slots := 9, locals := 40 } : Room) s m #[(.ref a), (.int (0 : Int32)), (.int (3 : Int32))] below meth c s₁ [] 0 0 := Stand.of_body Bd
  have e0 : s₁.heap = h0 := by rw [← hh, Bd.state]; rfl
  have N0 := Fr.nil n0
  show OGets p e below (OLeaves s (Q_c3_30 Z a c0 c1 c2 h0 n0 F ) ({ frames := 3, cells := 2, slots := 9, locals := 40 } : Room).cells ({ frames := 3, cells := 2, slots := 9, locals := 40 } : Room).slots) _
  refine OGets.enter (ef_c3_30 m a (0 : Int32) (3 : Int32)) ?_
  show OGets p e below _ (s₁.setTop (mkF m 0 #[.val (.ref a), .val (.int (0 : Int32)), .val (.int (3 : Int32)), .unset, .unset, .unset] []))
  refine OGets.step (fun _ => XS.iloadN X0.here hx rfl (hb hby dj52m16_0) rfl) ?_
  obtain ⟨T230, h230, k230, X230, e230, E230, A230, st230⟩ := newP X0 hx hZ (hw _ (List.mem_of_getElem? (i := 21) rfl)) e0 (g := (mkF m 1 #[.val (.ref a), .val (.int (0 : Int32)), .val (.int (3 : Int32)), .unset, .unset, .unset] [(.int (3 : Int32))])) rfl (hb hby dj52m16_1) rfl (by decide) (cap := 3) (by decide) (by decide) (by decide) (by decide)
  have V230' := V0.newArr Z0 E230 A230 3 rfl
  have Z230 : n0 ≤ h230.size := Nat.le_trans Z0 E230.1
  obtain ⟨b230, g230⟩ : ∃ z, z = h0.size := ⟨_, rfl⟩
  rw [← g230] at V230' st230
  have V230 : OView Z n0 h230 (((b230, Sum.inr (.byte, [(.int (0 : Int32)), (.int (0 : Int32)), (.int (0 : Int32))])) : Addr × OObj) :: ((a, Sum.inr (.char, [(.int c0), (.int c1), (.int c2)])) : Addr × OObj) :: F) := V230'
  have O230 := O0.ext E230
  refine OGets.step st230 ?_
  refine OGets.step (fun _ => XS.astoreN X230.here hx rfl (hb hby dj52m16_3) rfl rfl (l' := #[.val (.ref a), .val (.int (0 : Int32)), .val (.int (3 : Int32)), .val (.ref b230), .unset, .unset]) rfl) ?_
  refine OGets.step (fun _ => XS.aloadN X230.here hx rfl (hb hby dj52m16_4) rfl rfl) ?_
  refine OGets.step (fun _ => XS.iloadN X230.here hx rfl (hb hby dj52m16_5) rfl) ?_
  refine OGets.step (fun _ => XS.aloadN X230.here hx rfl (hb hby dj52m16_6) rfl rfl) ?_
  refine OGets.step (fun _ => XS.iconst X230.here hx rfl (hb hby dj52m16_7)) ?_
  show OGets p e below _ (T230.setTop (mkF m 8 #[.val (.ref a), .val (.int (0 : Int32)), .val (.int (3 : Int32)), .val (.ref b230), .unset, .unset] [(.int (0 : Int32)), (.ref b230), (.int (0 : Int32)), (.ref a)]))
  refine OGets.step (fun _ => XS.iloadN X230.here hx rfl (hb hby dj52m16_8) rfl) ?_
  have V231_ : OView Z _ h230 (((a, Sum.inr (.char, [(.int c0), (.int c1), (.int c2)])) : Addr × OObj) :: ((b230, Sum.inr (.byte, [(.int (0 : Int32)), (.int (0 : Int32)), (.int (0 : Int32))])) : Addr × OObj) :: F) := (V230.bring 1 rfl)
  obtain ⟨_, _, ⟨T231, L231, k231, n231⟩, -, X231, ⟨Lc231, hQ231, l231, y231, z231⟩, st231⟩ := Jvm.LawKit.callS X230 hx (y := (⟨"java/lang/StringUTF16", "compress", "([CI[BII)I"⟩ : MethodName)) hown (mvT hZ (hw _ (List.mem_of_getElem? (i := 49) rfl))) (mvT hZ (hw _ (List.mem_of_getElem? (i := 50) rfl))) (mvT hZ (hw _ (List.mem_of_getElem? (i := 47) rfl))) (mvT hZ (hw _ (List.mem_of_getElem? (i := 51) rfl))) (by decide) (backOf (W := 0) (rm_c5_30 l Z a0 hw [] a b230 c0 c1 c2 h230 n0 _ Z230 u0 V231_ O230) hZ (hw _ (List.mem_of_getElem? (i := 51) rfl)) (hw _ (List.mem_of_getElem? (i := 47) rfl)) (by decide) (by decide)) (g := (mkF m 9 #[.val (.ref a), .val (.int (0 : Int32)), .val (.int (3 : Int32)), .val (.ref b230), .unset, .unset] [(.int (3 : Int32)), (.int (0 : Int32)), (.ref b230), (.int (0 : Int32)), (.ref a)])) rfl (by rw [hml]; rfl) (argsL := [(.ref a), (.int (0 : Int32)), (.ref b230), (.int (0 : Int32)), (.int (3 : Int32))]) (rest := []) (lenOf pd_5 rfl) rfl (by show 2 * 0 + _ ≤ _; exact Nat.le_of_eq rfl) (hb hby dj52m16_9) (fun _ _ => ⟨rfl, e230, Nat.le_of_ble_eq_true rfl, Nat.le_of_ble_eq_true rfl⟩)
  dsimp only [Pt.U, Pt.locs, Pt.cells, Pt.slots] at X231 l231 y231 z231 st231 hQ231
  rw [l231, y231, z231] at X231
  obtain ⟨rfl, N231q, V231, O231q⟩ := hQ231
  have N231 := Fr.app N0 N231q
  have V231v : OView Z n0 T231.heap (((a, Sum.inr (.char, [(.int c0), (.int c1), (.int c2)])) : Addr × OObj) :: ((b230, Sum.inr (.byte, [(.int (0 : Int32)), (.int (0 : Int32)), (.int (0 : Int32))])) : Addr × OObj) :: F) := V231
  have Z231 : n0 ≤ T231.heap.size := V231v.big 0 rfl
  refine OGets.step st231 ?_
  refine OGets.step (fun _ => XS.istore X231.here hx rfl (hb hby dj52m16_12) rfl (l' := #[.val (.ref a), .val (.int (0 : Int32)), .val (.int (3 : Int32)), .val (.ref b230), .val (.int (0 : Int32)), .unset]) rfl) ?_
  refine OGets.step (fun _ => XS.iload X231.here hx rfl (hb hby dj52m16_14) rfl) ?_
  refine OGets.step (fun _ => XS.iloadN X231.here hx rfl (hb hby dj52m16_16) rfl) ?_
  refine OGets.step (fun _ => XS.icmpNo X231.here hx rfl (hb hby dj52m16_17) rfl (feq (by decide : ¬ ((0 : Int32) = (3 : Int32)))).1) ?_
  refine OGets.step (fun _ => XS.aloadN X231.here hx rfl (hb hby dj52m16_20) rfl rfl) ?_
  show OGets p e below _ (T231.setTop (mkF m 21 #[.val (.ref a), .val (.int (0 : Int32)), .val (.int (3 : Int32)), .val (.ref b230), .val (.int (0 : Int32)), .unset] [(.ref a)]))
  refine OGets.step (fun _ => XS.iloadN X231.here hx rfl (hb hby dj52m16_21) rfl) ?_
  refine OGets.step (fun _ => XS.iloadN X231.here hx rfl (hb hby dj52m16_22) rfl) ?_
  obtain ⟨_, _, ⟨T233, L233, k233, n233⟩, -, X233, ⟨Lc233, hQ233, l233, y233, z233⟩, st233⟩ := Jvm.LawKit.callS X231 hx (y := (⟨"java/lang/StringUTF16", "toBytes", "([CII)[B"⟩ : MethodName)) hown (mvT hZ (hw _ (List.mem_of_getElem? (i := 55) rfl))) (mvT hZ (hw _ (List.mem_of_getElem? (i := 56) rfl))) (mvT hZ (hw _ (List.mem_of_getElem? (i := 47) rfl))) (mvT hZ (hw _ (List.mem_of_getElem? (i := 57) rfl))) (by decide) (backOf (W := 0) (rm_tob3 l Z a0 hw [] a c0 c1 c2 T231.heap n0 _ Z231 SA SH SL V231v O231q) hZ (hw _ (List.mem_of_getElem? (i := 57) rfl)) (hw _ (List.mem_of_getElem? (i := 47) rfl)) (by decide) (by decide)) (g := (mkF m 23 #[.val (.ref a), .val (.int (0 : Int32)), .val (.int (3 : Int32)), .val (.ref b230), .val (.int (0 : Int32)), .unset] [(.int (3 : Int32)), (.int (0 : Int32)), (.ref a)])) rfl (by rw [hml]; rfl) (argsL := [(.ref a), (.int (0 : Int32)), (.int (3 : Int32))]) (rest := []) (lenOf pd_6 rfl) rfl (by show 2 * 0 + _ ≤ _; exact Nat.le_of_eq rfl) (hb hby dj52m16_23) (fun _ _ => ⟨rfl, rfl, Nat.le_of_ble_eq_true rfl, Nat.le_of_ble_eq_true rfl⟩)
  dsimp only [Pt.U, Pt.locs, Pt.cells, Pt.slots] at X233 l233 y233 z233 st233 hQ233
  rw [l233, y233, z233] at X233
  obtain ⟨b233, rfl, N233q, V233, O233q⟩ := hQ233
  have N233 := Fr.app N231 N233q
  have V233v : OView Z n0 T233.heap (((b233, Sum.inr (.byte, [(.int (hb' c0)), (.int (lb' c0)), (.int (hb' c1)), (.int (lb' c1)), (.int (hb' c2)), (.int (lb' c2))])) : Addr × OObj) :: ((a, Sum.inr (.char, [(.int c0), (.int c1), (.int c2)])) : Addr × OObj) :: ((b230, Sum.inr (.byte, [(.int (0 : Int32)), (.int (0 : Int32)), (.int (0 : Int32))])) : Addr × OObj) :: F) := V233
  have Z233 : n0 ≤ T233.heap.size := V233v.big 0 rfl
  refine OGets.step st233 ?_
  refine OGets.step (fun _ => XS.astore X233.here hx rfl (hb hby dj52m16_26) rfl rfl (l' := #[.val (.ref a), .val (.int (0 : Int32)), .val (.int (3 : Int32)), .val (.ref b230), .val (.int (0 : Int32)), .val (.ref b233)]) rfl) ?_
  refine OGets.step (fun _ => XS.aload X233.here hx rfl (hb hby dj52m16_28) rfl rfl) ?_
  refine OGets.step (fun _ => XS.iload X233.here hx rfl (hb hby dj52m16_30) rfl) ?_
  obtain ⟨_, _, ⟨T234, L234, k234, n234⟩, -, X234, ⟨Lc234, hQ234, l234, y234, z234⟩, st234⟩ := Jvm.LawKit.callS X233 hx (y := (⟨"java/lang/StringUTF16", "getChar", "([BI)C"⟩ : MethodName)) hown (mvT hZ (hw _ (List.mem_of_getElem? (i := 71) rfl))) (mvT hZ (hw _ (List.mem_of_getElem? (i := 72) rfl))) (mvT hZ (hw _ (List.mem_of_getElem? (i := 47) rfl))) (mvT hZ (hw _ (List.mem_of_getElem? (i := 73) rfl))) (by decide) (backOf (W := 0) (rm_gch30 l Z a0 hw [] b233 (hb' c0) (lb' c0) (hb' c1) (lb' c1) (hb' c2) (lb' c2) T233.heap n0 _ Z233 SA SH SL V233v O233q) hZ (hw _ (List.mem_of_getElem? (i := 73) rfl)) (hw _ (List.mem_of_getElem? (i := 47) rfl)) (by decide) (by decide)) (g := (mkF m 32 #[.val (.ref a), .val (.int (0 : Int32)), .val (.int (3 : Int32)), .val (.ref b230), .val (.int (0 : Int32)), .val (.ref b233)] [(.int (0 : Int32)), (.ref b233)])) rfl (by rw [hml]; rfl) (argsL := [(.ref b233), (.int (0 : Int32))]) (rest := []) (lenOf pd_7 rfl) rfl (by show 2 * 0 + _ ≤ _; exact Nat.le_of_eq rfl) (hb hby dj52m16_32) (fun _ _ => ⟨rfl, rfl, Nat.le_of_ble_eq_true rfl, Nat.le_of_ble_eq_true rfl⟩)
  dsimp only [Pt.U, Pt.locs, Pt.cells, Pt.slots] at X234 l234 y234 z234 st234 hQ234
  rw [l234, y234, z234] at X234
  obtain ⟨rfl, rfl, e234⟩ := hQ234
  have N234 := Fr.app N233 (Fr.nil n0)
  refine OGets.step st234 ?_
  refine OGets.step (fun _ => XS.sipush X234.here hx rfl (hb hby dj52m16_35)) ?_
  refine OGets.step (fun _ => XS.icmpYes X234.here hx rfl (pc0 := 38) (pc' := 54) rfl (hb hby dj52m16_38) rfl (tlt (own_gc w0 u0 : (255 : Int32) < (gcv (hb' c0) (lb' c0)))).2.2.1 (by decide) (by decide)) ?_
  refine OGets.step (fun _ => XS.aload X234.here hx rfl (hb hby dj52m16_54) rfl rfl) ?_
  refine OGets.retA X234 hx hlk (t := (.array .byte)) Bd.returns rfl rfl rfl (hb hby dj52m16_56) (Nat.le_of_ble_eq_true rfl) (Nat.le_of_ble_eq_true rfl) ?_
  have Vd236 : OView Z _ T233.heap (((b233, Sum.inr (.byte, [(.int (hb' c0)), (.int (lb' c0)), (.int (hb' c1)), (.int (lb' c1)), (.int (hb' c2)), (.int (lb' c2))])) : Addr × OObj) :: ((a, Sum.inr (.char, [(.int c0), (.int c1), (.int c2)])) : Addr × OObj) :: F) := (V233v.bring 2 rfl).tail
  rw [e234]
  exact ⟨b233, rfl, N234, Vd236, O233q⟩
theorem ef_i4_30 (m : MethodId) (x0 : Addr) (x1 : Addr) (x2 : Int32) (x3 : Int32) : entryFrame m #[(.ref x0), (.ref x1), (.int x2), (.int x3), .null] 6 = mkF m 0 #[.val (.ref x0), .val (.ref x1), .val (.int x2), .val (.int x3), .val .null, .unset] [] := by first | (simp [entryFrame, mkF, argsToLocals, Value.category]; done) | rfl
def Q_i4_30 (Z : State) (a : Addr) (q : Addr) (G : Int32) (c0 : Int32) (c1 : Int32) (c2 : Int32) (h0 : Heap) (n0 : Nat) (F : List (Addr × OObj)) (v : Option Value) (h : Heap) (L : List Loc) : Prop := v = none ∧ Fr n0 L ∧ ∃ b : Addr, OView Z n0 h (((a, Sum.inl ("java/lang/String", ns_String, [(.ref b), (.int (1 : Int32))])) : Addr × OObj) :: ((b, Sum.inr (.byte, [(.int (hb' c0)), (.int (lb' c0)), (.int (hb' c1)), (.int (lb' c1)), (.int (hb' c2)), (.int (lb' c2))])) : Addr × OObj) :: ((q, Sum.inr (.char, [(.int c0), (.int c1), (.int c2)])) : Addr × OObj) :: F) ∧ Old Z n0 h
set_option maxRecDepth 65536 in
set_option maxHeartbeats 40000000 in
theorem rm_i4_30 (l : Launch) (Z : State) (a0 : Array Value) (hw : ∀ d ∈ tables_1, d.before a0 Z = true) (ws : List Jvm.Cond) (a : Addr) (q : Addr) (G : Int32) (c0 : Int32) (c1 : Int32) (c2 : Int32) (h0 : Heap) (n0 : Nat) (F : List (Addr × OObj)) (Z0 : n0 ≤ h0.size) (S0 : Sta Z Z.heap "java/lang/String" "COMPACT_STRINGS" "Z" (.int G)) (hG : ¬ G = (0 : Int32)) (SA : Sta Z Z.heap "java/lang/StringUTF16" "$assertionsDisabled" "Z" (.int (1 : Int32))) (SH : Sta Z Z.heap "java/lang/StringUTF16" "HI_BYTE_SHIFT" "I" (.int (0 : Int32))) (SL : Sta Z Z.heap "java/lang/StringUTF16" "LO_BYTE_SHIFT" "I" (.int (8 : Int32))) (u0 : (255 : Int32) < c0) (w0 : Ch c0) (V0 : OView Z n0 h0 (((a, Sum.inl ("java/lang/String", ns_String, [.null, (.int (0 : Int32))])) : Addr × OObj) :: ((q, Sum.inr (.char, [(.int c0), (.int c1), (.int c2)])) : Addr × OObj) :: F)) (O0 : Old Z n0 h0) :
    MetFree l (⟨"java/lang/String", "<init>", "([CIILjava/lang/Void;)V"⟩ : MethodName) (head1 (Jvm.Cond.code (⟨"java/lang/String", "<init>", "([CIILjava/lang/Void;)V"⟩ : MethodName) jdk_42_method_149_code 6 none :: ws) ({ frames := 4, cells := 2, slots := 9, locals := 57 } : Room)) (fun a_ U => a_ = #[(.ref a), (.ref q), (.int (0 : Int32)), (.int (3 : Int32)), .null] ∧ Z.Warmed39 U.vm ∧ U.heap = h0) (fun _ _ _ _ _ => True) (fun _ U o U' => ∃ v L, o = .returned v ∧ Q_i4_30 Z a q G c0 c1 c2 h0 n0 F v U'.heap L ∧ FrameEnd U o U' L ({ frames := 4, cells := 2, slots := 9, locals := 57 } : Room).cells ({ frames := 4, cells := 2, slots := 9, locals := 57 } : Room).slots) := by
  refine MetFree.of_bodySF (plainFor_of_name pn_8) hisR ?_
  intro p e s m args below meth c s₁ Bd hml0 hP hK
  obtain ⟨rfl, hZ, hh⟩ := hP
  have hx := Bd.exec
  have hby := Bd.bytes
  have hlk : meth.locks = false := Bd.notSynchronized
  have hml : c.maxLocals = 6 := hml0
  have hown : s.vm.findClass "java/lang/String" = some m.cls := findClass_of_methodNamed Bd.named
  have hnm := (name_of_methodNamed Bd.named Bd.method).1
  have X0 : Stand p l e ({ frames := 4, cells := 2, slots := 9, locals := 57 } : Room) s m #[(.ref a), (.ref q), (.int (0 : Int32)), (.int (3 : Int32)), .null] below meth c s₁ [] 0 0 := Stand.of_body Bd
  have e0 : s₁.heap = h0 := by rw [← hh, Bd.state]; rfl
  have N0 := Fr.nil n0
  show OGets p e below (OLeaves s (Q_i4_30 Z a q G c0 c1 c2 h0 n0 F ) ({ frames := 4, cells := 2, slots := 9, locals := 57 } : Room).cells ({ frames := 4, cells := 2, slots := 9, locals := 57 } : Room).slots) _
  refine OGets.enter (ef_i4_30 m a q (0 : Int32) (3 : Int32)) ?_
  show OGets p e below _ (s₁.setTop (mkF m 0 #[.val (.ref a), .val (.ref q), .val (.int (0 : Int32)), .val (.int (3 : Int32)), .val .null, .unset] []))
  refine OGets.step (fun _ => XS.aloadN X0.here hx rfl (hb hby dj42m149_0) rfl rfl) ?_
  obtain ⟨T237, X237, e237, st237⟩ := initO X0 hx hZ hown (hw _ (List.mem_of_getElem? (i := 17) rfl)) (hw _ (List.mem_of_getElem? (i := 18) rfl)) (hw _ (List.mem_of_getElem? (i := 19) rfl)) e0 (g := (mkF m 1 #[.val (.ref a), .val (.ref q), .val (.int (0 : Int32)), .val (.int (3 : Int32)), .val .null, .unset] [(.ref a)])) rfl (by rw [hml]; rfl) rfl (hb hby dj42m149_1) (by decide) (W := 0) (by show 2 * 0 + _ ≤ _; exact Nat.le_of_eq rfl) (by decide)
  refine OGets.step st237 ?_
  refine OGets.step (fun _ => XS.iloadN X237.here hx rfl (hb hby dj42m149_4) rfl) ?_
  refine OGets.step (fun _ => XS.ifYes X237.here hx rfl (pc0 := 5) (pc' := 27) rfl (hb hby dj42m149_5) rfl ((if0 _ _).trans (feq (by decide : ¬ ((3 : Int32) = (0 : Int32)))).2) (by decide) (by decide)) ?_
  obtain ⟨T239, X239, e239, st239⟩ := getS2 X237 hx hZ hown (host := "") (Or.inl (hw _ (List.mem_of_getElem? (i := 39) rfl))) Via.refl e237 (S0.ext O0.2) (g := (mkF m 27 #[.val (.ref a), .val (.ref q), .val (.int (0 : Int32)), .val (.int (3 : Int32)), .val .null, .unset] [])) rfl (hb hby dj42m149_27)
  refine OGets.step st239 ?_
  refine OGets.step (fun _ => XS.ifNo X239.here hx rfl (hb hby dj42m149_30) rfl ((if0 _ _).trans (feq (hG : ¬ (G = (0 : Int32)))).1)) ?_
  refine OGets.step (fun _ => XS.aloadN X239.here hx rfl (hb hby dj42m149_33) rfl rfl) ?_
  refine OGets.step (fun _ => XS.iloadN X239.here hx rfl (hb hby dj42m149_34) rfl) ?_
  refine OGets.step (fun _ => XS.iloadN X239.here hx rfl (hb hby dj42m149_35) rfl) ?_
  have V241_ : OView Z _ h0 (((q, Sum.inr (.char, [(.int c0), (.int c1), (.int c2)])) : Addr × OObj) :: ((a, Sum.inl ("java/lang/String", ns_String, [.null, (.int (0 : Int32))])) : Addr × OObj) :: F) := (V0.bring 1 rfl)
  obtain ⟨_, _, ⟨T241, L241, k241, n241⟩, -, X241, ⟨Lc241, hQ241, l241, y241, z241⟩, st241⟩ := Jvm.LawKit.callS X239 hx (y := (⟨"java/lang/StringUTF16", "compress", "([CII)[B"⟩ : MethodName)) hown (mvT hZ (hw _ (List.mem_of_getElem? (i := 45) rfl))) (mvT hZ (hw _ (List.mem_of_getElem? (i := 46) rfl))) (mvT hZ (hw _ (List.mem_of_getElem? (i := 47) rfl))) (mvT hZ (hw _ (List.mem_of_getElem? (i := 48) rfl))) (by decide) (backOf (W := 0) (rm_c3_30 l Z a0 hw [] q c0 c1 c2 h0 n0 _ Z0 SA SH SL u0 w0 V241_ O0) hZ (hw _ (List.mem_of_getElem? (i := 48) rfl)) (hw _ (List.mem_of_getElem? (i := 47) rfl)) (by decide) (by decide)) (g := (mkF m 36 #[.val (.ref a), .val (.ref q), .val (.int (0 : Int32)), .val (.int (3 : Int32)), .val .null, .unset] [(.int (3 : Int32)), (.int (0 : Int32)), (.ref q)])) rfl (by rw [hml]; rfl) (argsL := [(.ref q), (.int (0 : Int32)), (.int (3 : Int32))]) (rest := []) (lenOf pd_6 rfl) rfl (by show 2 * 0 + _ ≤ _; exact Nat.le_of_eq rfl) (hb hby dj42m149_36) (fun _ _ => ⟨rfl, e239, Nat.le_of_ble_eq_true rfl, Nat.le_of_ble_eq_true rfl⟩)
  dsimp only [Pt.U, Pt.locs, Pt.cells, Pt.slots] at X241 l241 y241 z241 st241 hQ241
  rw [l241, y241, z241] at X241
  obtain ⟨b241, rfl, N241q, V241, O241q⟩ := hQ241
  have N241 := Fr.app N0 N241q
  have V241v : OView Z n0 T241.heap (((b241, Sum.inr (.byte, [(.int (hb' c0)), (.int (lb' c0)), (.int (hb' c1)), (.int (lb' c1)), (.int (hb' c2)), (.int (lb' c2))])) : Addr × OObj) :: ((q, Sum.inr (.char, [(.int c0), (.int c1), (.int c2)])) : Addr × OObj) :: ((a, Sum.inl ("java/lang/String", ns_String, [.null, (.int (0 : Int32))])) : Addr × OObj) :: F) := V241
  have Z241 : n0 ≤ T241.heap.size := V241v.big 0 rfl
  refine OGets.step st241 ?_
  refine OGets.step (fun _ => XS.astore X241.here hx rfl (hb hby dj42m149_39) rfl rfl (l' := #[.val (.ref a), .val (.ref q), .val (.int (0 : Int32)), .val (.int (3 : Int32)), .val .null, .val (.ref b241)]) rfl) ?_
  refine OGets.step (fun _ => XS.aloadN X241.here hx rfl (hb hby dj42m149_41) rfl rfl) ?_
  refine OGets.step (fun _ => XS.aload X241.here hx rfl (hb hby dj42m149_42) rfl rfl) ?_
  refine OGets.step (fun _ => XS.iloadN X241.here hx rfl (hb hby dj42m149_44) rfl) ?_
  obtain ⟨_, _, ⟨T242, L242, k242, n242⟩, -, X242, ⟨Lc242, hQ242, l242, y242, z242⟩, st242⟩ := Jvm.LawKit.callS X241 hx (y := (⟨"java/lang/StringUTF16", "coderFromArrayLen", "([BI)B"⟩ : MethodName)) hown (mvT hZ (hw _ (List.mem_of_getElem? (i := 52) rfl))) (mvT hZ (hw _ (List.mem_of_getElem? (i := 53) rfl))) (mvT hZ (hw _ (List.mem_of_getElem? (i := 47) rfl))) (mvT hZ (hw _ (List.mem_of_getElem? (i := 54) rfl))) (by decide) (backOf (W := 1) (rm_cfl31 l Z a0 hw [] b241 (hb' c0) (lb' c0) (hb' c1) (lb' c1) (hb' c2) (lb' c2) T241.heap n0 _ Z241  V241v) hZ (hw _ (List.mem_of_getElem? (i := 54) rfl)) (hw _ (List.mem_of_getElem? (i := 47) rfl)) (by decide) (by decide)) (g := (mkF m 45 #[.val (.ref a), .val (.ref q), .val (.int (0 : Int32)), .val (.int (3 : Int32)), .val .null, .val (.ref b241)] [(.int (3 : Int32)), (.ref b241), (.ref a)])) rfl (by rw [hml]; rfl) (argsL := [(.ref b241), (.int (3 : Int32))]) (rest := [(.ref a)]) (lenOf pd_9 rfl) rfl (by show 2 * 0 + _ ≤ _; exact Nat.le_of_eq rfl) (hb hby dj42m149_45) (fun _ _ => ⟨rfl, rfl, Nat.le_of_ble_eq_true rfl, Nat.le_of_ble_eq_true rfl⟩)
  dsimp only [Pt.U, Pt.locs, Pt.cells, Pt.slots] at X242 l242 y242 z242 st242 hQ242
  rw [l242, y242, z242] at X242
  obtain ⟨rfl, rfl, e242⟩ := hQ242
  have N242 := Fr.app N241 (Fr.nil n0)
  refine OGets.step st242 ?_
  obtain ⟨T243, h243, X243, e243, W243, st243⟩ := putFN X242 hx hZ hown (hw _ (List.mem_of_getElem? (i := 27) rfl)) Via.refl e242 (V241v.fld 2 rfl 1 rfl rfl) (V241v.exa 2 rfl) (Or.inr ⟨(hw _ (List.mem_of_getElem? (i := 23) rfl)), rfl, hnm⟩) (hw _ (List.mem_of_getElem? (i := 7) rfl)) (ty := .byte) (v' := (.int (1 : Int32))) (by decide) rfl (by decide) (g := (mkF m 48 #[.val (.ref a), .val (.ref q), .val (.int (0 : Int32)), .val (.int (3 : Int32)), .val .null, .val (.ref b241)] [(.int (1 : Int32)), (.ref a)])) rfl rfl (hb hby dj42m149_48)
  have V243 : OView Z n0 h243 (((b241, Sum.inr (.byte, [(.int (hb' c0)), (.int (lb' c0)), (.int (hb' c1)), (.int (lb' c1)), (.int (hb' c2)), (.int (lb' c2))])) : Addr × OObj) :: ((q, Sum.inr (.char, [(.int c0), (.int c1), (.int c2)])) : Addr × OObj) :: ((a, Sum.inl ("java/lang/String", ns_String, [.null, (.int (1 : Int32))])) : Addr × OObj) :: F) := V241v.putF 2 rfl 1 rfl W243
  have N243 := Fr.snoc X243 N242 (V241v.old 2 rfl)
  have Z243 : n0 ≤ h243.size := by rw [W243.size]; exact Z241
  have O243 := O241q.wr W243 (V241v.old 2 rfl)
  refine OGets.step st243 ?_
  refine OGets.step (fun _ => XS.aloadN X243.here hx rfl (hb hby dj42m149_51) rfl rfl) ?_
  refine OGets.step (fun _ => XS.aload X243.here hx rfl (hb hby dj42m149_52) rfl rfl) ?_
  obtain ⟨T244, h244, X244, e244, W244, st244⟩ := putF X243 hx hZ hown (host := "") (Or.inl (hw _ (List.mem_of_getElem? (i := 26) rfl))) Via.refl e243 (V243.fld 2 rfl 0 rfl rfl) (V243.exa 2 rfl) (Or.inr ⟨(hw _ (List.mem_of_getElem? (i := 22) rfl)), rfl, hnm⟩) (hw _ (List.mem_of_getElem? (i := 7) rfl)) (ty := (.array .byte)) (by decide) rfl rfl (g := (mkF m 54 #[.val (.ref a), .val (.ref q), .val (.int (0 : Int32)), .val (.int (3 : Int32)), .val .null, .val (.ref b241)] [(.ref b241), (.ref a)])) rfl rfl (hb hby dj42m149_54)
  have V244 : OView Z n0 h244 (((b241, Sum.inr (.byte, [(.int (hb' c0)), (.int (lb' c0)), (.int (hb' c1)), (.int (lb' c1)), (.int (hb' c2)), (.int (lb' c2))])) : Addr × OObj) :: ((q, Sum.inr (.char, [(.int c0), (.int c1), (.int c2)])) : Addr × OObj) :: ((a, Sum.inl ("java/lang/String", ns_String, [(.ref b241), (.int (1 : Int32))])) : Addr × OObj) :: F) := V243.putF 2 rfl 0 rfl W244
  have N244 := Fr.snoc X244 N243 (V243.old 2 rfl)
  have Z244 : n0 ≤ h244.size := by rw [W244.size]; exact Z243
  have O244 := O243.wr W244 (V243.old 2 rfl)
  refine OGets.step st244 ?_
  refine OGets.retV X244 hx hlk Bd.returns (hb hby dj42m149_57) (Nat.le_of_ble_eq_true rfl) (Nat.le_of_ble_eq_true rfl) ?_
  have Vp245 : OView Z _ h244 (((a, Sum.inl ("java/lang/String", ns_String, [(.ref b241), (.int (1 : Int32))])) : Addr × OObj) :: ((b241, Sum.inr (.byte, [(.int (hb' c0)), (.int (lb' c0)), (.int (hb' c1)), (.int (lb' c1)), (.int (hb' c2)), (.int (lb' c2))])) : Addr × OObj) :: ((q, Sum.inr (.char, [(.int c0), (.int c1), (.int c2)])) : Addr × OObj) :: F) := (V244.bring 2 rfl)
  rw [e244]
  exact ⟨rfl, N244, b241, Vp245, O244⟩
theorem ef_i1_30 (m : MethodId) (x0 : Addr) (x1 : Addr) : entryFrame m #[(.ref x0), (.ref x1)] 2 = mkF m 0 #[.val (.ref x0), .val (.ref x1)] [] := by first | (simp [entryFrame, mkF, argsToLocals, Value.category]; done) | rfl
def Q_i1_30 (Z : State) (a : Addr) (q : Addr) (G : Int32) (c0 : Int32) (c1 : Int32) (c2 : Int32) (h0 : Heap) (n0 : Nat) (F : List (Addr × OObj)) (v : Option Value) (h : Heap) (L : List Loc) : Prop := v = none ∧ Fr n0 L ∧ ∃ b : Addr, OView Z n0 h (((a, Sum.inl ("java/lang/String", ns_String, [(.ref b), (.int (1 : Int32))])) : Addr × OObj) :: ((b, Sum.inr (.byte, [(.int (hb' c0)), (.int (lb' c0)), (.int (hb' c1)), (.int (lb' c1)), (.int (hb' c2)), (.int (lb' c2))])) : Addr × OObj) :: ((q, Sum.inr (.char, [(.int c0), (.int c1), (.int c2)])) : Addr × OObj) :: F) ∧ Old Z n0 h
set_option maxRecDepth 65536 in
set_option maxHeartbeats 40000000 in
theorem rm_i1_30 (l : Launch) (Z : State) (a0 : Array Value) (hw : ∀ d ∈ tables_1, d.before a0 Z = true) (ws : List Jvm.Cond) (a : Addr) (q : Addr) (G : Int32) (c0 : Int32) (c1 : Int32) (c2 : Int32) (h0 : Heap) (n0 : Nat) (F : List (Addr × OObj)) (Z0 : n0 ≤ h0.size) (S0 : Sta Z Z.heap "java/lang/String" "COMPACT_STRINGS" "Z" (.int G)) (hG : ¬ G = (0 : Int32)) (SA : Sta Z Z.heap "java/lang/StringUTF16" "$assertionsDisabled" "Z" (.int (1 : Int32))) (SH : Sta Z Z.heap "java/lang/StringUTF16" "HI_BYTE_SHIFT" "I" (.int (0 : Int32))) (SL : Sta Z Z.heap "java/lang/StringUTF16" "LO_BYTE_SHIFT" "I" (.int (8 : Int32))) (u0 : (255 : Int32) < c0) (w0 : Ch c0) (V0 : OView Z n0 h0 (((a, Sum.inl ("java/lang/String", ns_String, [.null, (.int (0 : Int32))])) : Addr × OObj) :: ((q, Sum.inr (.char, [(.int c0), (.int c1), (.int c2)])) : Addr × OObj) :: F)) (O0 : Old Z n0 h0) :
    MetFree l (⟨"java/lang/String", "<init>", "([C)V"⟩ : MethodName) (head1 (Jvm.Cond.code (⟨"java/lang/String", "<init>", "([C)V"⟩ : MethodName) jdk_42_method_3_code 2 none :: ws) ({ frames := 5, cells := 2, slots := 9, locals := 74 } : Room)) (fun a_ U => a_ = #[(.ref a), (.ref q)] ∧ Z.Warmed39 U.vm ∧ U.heap = h0) (fun _ _ _ _ _ => True) (fun _ U o U' => ∃ v L, o = .returned v ∧ Q_i1_30 Z a q G c0 c1 c2 h0 n0 F v U'.heap L ∧ FrameEnd U o U' L ({ frames := 5, cells := 2, slots := 9, locals := 74 } : Room).cells ({ frames := 5, cells := 2, slots := 9, locals := 74 } : Room).slots) := by
  refine MetFree.of_bodySF (plainFor_of_name pn_8) hisR ?_
  intro p e s m args below meth c s₁ Bd hml0 hP hK
  obtain ⟨rfl, hZ, hh⟩ := hP
  have hx := Bd.exec
  have hby := Bd.bytes
  have hlk : meth.locks = false := Bd.notSynchronized
  have hml : c.maxLocals = 2 := hml0
  have hown : s.vm.findClass "java/lang/String" = some m.cls := findClass_of_methodNamed Bd.named
  have hnm := (name_of_methodNamed Bd.named Bd.method).1
  have X0 : Stand p l e ({ frames := 5, cells := 2, slots := 9, locals := 74 } : Room) s m #[(.ref a), (.ref q)] below meth c s₁ [] 0 0 := Stand.of_body Bd
  have e0 : s₁.heap = h0 := by rw [← hh, Bd.state]; rfl
  have N0 := Fr.nil n0
  show OGets p e below (OLeaves s (Q_i1_30 Z a q G c0 c1 c2 h0 n0 F ) ({ frames := 5, cells := 2, slots := 9, locals := 74 } : Room).cells ({ frames := 5, cells := 2, slots := 9, locals := 74 } : Room).slots) _
  refine OGets.enter (ef_i1_30 m a q) ?_
  show OGets p e below _ (s₁.setTop (mkF m 0 #[.val (.ref a), .val (.ref q)] []))
  refine OGets.step (fun _ => XS.aloadN X0.here hx rfl (hb hby dj42m3_0) rfl rfl) ?_
  refine OGets.step (fun _ => XS.aloadN X0.here hx rfl (hb hby dj42m3_1) rfl rfl) ?_
  refine OGets.step (fun _ => XS.iconst X0.here hx rfl (hb hby dj42m3_2)) ?_
  refine OGets.step (fun _ => XS.aloadN X0.here hx rfl (hb hby dj42m3_3) rfl rfl) ?_
  obtain ⟨cl246, Ar246, S246⟩ := V0.arr 1 rfl
  have ln246 : cl246.slots.size.toInt32 = (3 : Int32) := by rw [own_len S246]; rfl
  refine OGets.step (U' := s₁.setTop (mkF m 5 #[.val (.ref a), .val (.ref q)] [(.int (3 : Int32)), (.int (0 : Int32)), (.ref q), (.ref a)])) (fun t kt => ?_) ?_
  · refine X0.arraylength hx (by rw [e0]; exact Ar246.1) (State.isArrayOf_alike hZ.alike Ar246.2.1) (g := (mkF m 4 #[.val (.ref a), .val (.ref q)] [(.ref q), (.int (0 : Int32)), (.ref q), (.ref a)])) rfl rfl (hb hby dj42m3_4) _ ?_
    rw [ln246]; exact kt
  refine OGets.step (fun _ => XS.aconstNull X0.here hx rfl (hb hby dj42m3_5)) ?_
  show OGets p e below _ (s₁.setTop (mkF m 6 #[.val (.ref a), .val (.ref q)] [.null, (.int (3 : Int32)), (.int (0 : Int32)), (.ref q), (.ref a)]))
  obtain ⟨_, _, ⟨T247, L247, k247, n247⟩, -, X247, ⟨Lc247, hQ247, l247, y247, z247⟩, st247⟩ := X0.specialBack hx (y := (⟨"java/lang/String", "<init>", "([CIILjava/lang/Void;)V"⟩ : MethodName)) rfl hown (mvT hZ (hw _ (List.mem_of_getElem? (i := 13) rfl))) (mvT hZ (hw _ (List.mem_of_getElem? (i := 14) rfl))) (mvT hZ (hw _ (List.mem_of_getElem? (i := 16) rfl))) (by decide) (backOf (W := 0) (rm_i4_30 l Z a0 hw [] a q G c0 c1 c2 h0 n0 _ Z0 S0 hG SA SH SL u0 w0 V0 O0) hZ (hw _ (List.mem_of_getElem? (i := 16) rfl)) (hw _ (List.mem_of_getElem? (i := 8) rfl)) (by decide) (by decide)) (g := (mkF m 6 #[.val (.ref a), .val (.ref q)] [.null, (.int (3 : Int32)), (.int (0 : Int32)), (.ref q), (.ref a)])) rfl (by rw [hml]; rfl) (Steps.refl _) (a := a) (argsL := [(.ref q), (.int (0 : Int32)), (.int (3 : Int32)), .null]) (rest := []) (lenOf pd_10 rfl) rfl (by show 2 * 0 + _ ≤ _; exact Nat.le_of_eq rfl) (hb hby dj42m3_6) (fun _ _ => ⟨rfl, e0, Nat.le_of_ble_eq_true rfl, Nat.le_of_ble_eq_true rfl⟩)
  dsimp only [Pt.U, Pt.locs, Pt.cells, Pt.slots] at X247 l247 y247 z247 st247 hQ247
  rw [l247, y247, z247] at X247
  obtain ⟨rfl, N247q, b247, V247, O247q⟩ := hQ247
  have N247 := Fr.app N0 N247q
  have V247v : OView Z n0 T247.heap (((a, Sum.inl ("java/lang/String", ns_String, [(.ref b247), (.int (1 : Int32))])) : Addr × OObj) :: ((b247, Sum.inr (.byte, [(.int (hb' c0)), (.int (lb' c0)), (.int (hb' c1)), (.int (lb' c1)), (.int (hb' c2)), (.int (lb' c2))])) : Addr × OObj) :: ((q, Sum.inr (.char, [(.int c0), (.int c1), (.int c2)])) : Addr × OObj) :: F) := V247
  have Z247 : n0 ≤ T247.heap.size := V247v.big 0 rfl
  refine OGets.after st247 ?_
  refine OGets.retV X247 hx hlk Bd.returns (hb hby dj42m3_9) (Nat.le_of_ble_eq_true rfl) (Nat.le_of_ble_eq_true rfl) ?_
  exact ⟨rfl, N247, b247, V247v, O247q⟩
theorem ef_c5_31 (m : MethodId) (x0 : Addr) (x1 : Int32) (x2 : Addr) (x3 : Int32) (x4 : Int32) : entryFrame m #[(.ref x0), (.int x1), (.ref x2), (.int x3), (.int x4)] 7 = mkF m 0 #[.val (.ref x0), .val (.int x1), .val (.ref x2), .val (.int x3), .val (.int x4), .unset, .unset] [] := by first | (simp [entryFrame, mkF, argsToLocals, Value.category]; done) | rfl
def Q_c5_31 (Z : State) (a : Addr) (b : Addr) (c0 : Int32) (c1 : Int32) (c2 : Int32) (h0 : Heap) (n0 : Nat) (F : List (Addr × OObj)) (v : Option Value) (h : Heap) (L : List Loc) : Prop := v = some (.int (1 : Int32)) ∧ Fr n0 L ∧ OView Z n0 h (((a, Sum.inr (.char, [(.int c0), (.int c1), (.int c2)])) : Addr × OObj) :: ((b, Sum.inr (.byte, [(.int (yb c0)), (.int (0 : Int32)), (.int (0 : Int32))])) : Addr × OObj) :: F) ∧ Old Z n0 h
set_option maxRecDepth 65536 in
set_option maxHeartbeats 40000000 in
theorem rm_c5_31 (l : Launch) (Z : State) (a0 : Array Value) (hw : ∀ d ∈ tables_1, d.before a0 Z = true) (ws : List Jvm.Cond) (a : Addr) (b : Addr) (c0 : Int32) (c1 : Int32) (c2 : Int32) (h0 : Heap) (n0 : Nat) (F : List (Addr × OObj)) (Z0 : n0 ≤ h0.size) (u0 : ¬ (255 : Int32) < c0) (u1 : (255 : Int32) < c1) (V0 : OView Z n0 h0 (((a, Sum.inr (.char, [(.int c0), (.int c1), (.int c2)])) : Addr × OObj) :: ((b, Sum.inr (.byte, [(.int (0 : Int32)), (.int (0 : Int32)), (.int (0 : Int32))])) : Addr × OObj) :: F)) (O0 : Old Z n0 h0) :
    MetFree l (⟨"java/lang/StringUTF16", "compress", "([CI[BII)I"⟩ : MethodName) (head1 (Jvm.Cond.code (⟨"java/lang/StringUTF16", "compress", "([CI[BII)I"⟩ : MethodName) jdk_52_method_21_code 7 (some .int) :: ws) ({ frames := 0, cells := 0, slots := 0, locals := 0 } : Room)) (fun a_ U => a_ = #[(.ref a), (.int (0 : Int32)), (.ref b), (.int (0 : Int32)), (.int (3 : Int32))] ∧ Z.Warmed39 U.vm ∧ U.heap = h0) (fun _ _ _ _ _ => True) (fun _ U o U' => ∃ v L, o = .returned v ∧ Q_c5_31 Z a b c0 c1 c2 h0 n0 F v U'.heap L ∧ FrameEnd U o U' L ({ frames := 0, cells := 0, slots := 0, locals := 0 } : Room).cells ({ frames := 0, cells := 0, slots := 0, locals := 0 } : Room).slots) := by
  refine MetFree.of_bodySF (plainFor_of_name pn_1) hisR ?_
  intro p e s m args below meth c s₁ Bd hml0 hP hK
  obtain ⟨rfl, hZ, hh⟩ := hP
  have hx := Bd.exec
  have hby := Bd.bytes
  have hlk : meth.locks = false := Bd.notSynchronized
  have hml : c.maxLocals = 7 := hml0
  have hown : s.vm.findClass "java/lang/StringUTF16" = some m.cls := findClass_of_methodNamed Bd.named
  have hnm := (name_of_methodNamed Bd.named Bd.method).1
  have X0 : Stand p l e ({ frames := 0, cells := 0, slots := 0, locals := 0 } : Room) s m #[(.ref a), (.int (0 : Int32)), (.ref b), (.int (0 : Int32)), (.int (3 : Int32))] below meth c s₁ [] 0 0 := Stand.of_body Bd
  have e0 : s₁.heap = h0 := by rw [← hh, Bd.state]; rfl
  have N0 := Fr.nil n0
  show OGets p e below (OLeaves s (Q_c5_31 Z a b c0 c1 c2 h0 n0 F ) ({ frames := 0, cells := 0, slots := 0, locals := 0 } : Room).cells ({ frames := 0, cells := 0, slots := 0, locals := 0 } : Room).slots) _
  refine OGets.enter (ef_c5_31 m a (0 : Int32) b (0 : Int32) (3 : Int32)) ?_
  show OGets p e below _ (s₁.setTop (mkF m 0 #[.val (.ref a), .val (.int (0 : Int32)), .val (.ref b), .val (.int (0 : Int32)), .val (.int (3 : Int32)), .unset, .unset] []))
  refine OGets.step (fun _ => XS.iconst X0.here hx rfl (hb hby dj52m21_0)) ?_
  refine OGets.step (fun _ => XS.istore X0.here hx rfl (hb hby dj52m21_1) rfl (l' := #[.val (.ref a), .val (.int (0 : Int32)), .val (.ref b), .val (.int (0 : Int32)), .val (.int (3 : Int32)), .val (.int (0 : Int32)), .unset]) rfl) ?_
  refine OGets.step (fun _ => XS.iload X0.here hx rfl (hb hby dj52m21_3) rfl) ?_
  refine OGets.step (fun _ => XS.iload X0.here hx rfl (hb hby dj52m21_5) rfl) ?_
  refine OGets.step (fun _ => XS.icmpNo X0.here hx rfl (hb hby dj52m21_7) rfl (tlt (by decide : (0 : Int32) < (3 : Int32))).2.1) ?_
  refine OGets.step (fun _ => XS.aloadN X0.here hx rfl (hb hby dj52m21_10) rfl rfl) ?_
  show OGets p e below _ (s₁.setTop (mkF m 11 #[.val (.ref a), .val (.int (0 : Int32)), .val (.ref b), .val (.int (0 : Int32)), .val (.int (3 : Int32)), .val (.int (0 : Int32)), .unset] [(.ref a)]))
  refine OGets.step (fun _ => XS.iloadN X0.here hx rfl (hb hby dj52m21_11) rfl) ?_
  obtain ⟨cl249, Ar249, S249⟩ := V0.arr 0 rfl
  refine OGets.step (fun _ => X0.caload hx (j := (0 : Int32)) (v := (.int c0)) (by rw [e0]; exact Ar249.1) (State.isArrayOf_alike hZ.alike Ar249.2.1) Ar249.2.2 (own_inb S249 0 (by decide) (Nat.le_of_ble_eq_true rfl)) (own_get S249 0 (by decide) rfl) (g := (mkF m 12 #[.val (.ref a), .val (.int (0 : Int32)), .val (.ref b), .val (.int (0 : Int32)), .val (.int (3 : Int32)), .val (.int (0 : Int32)), .unset] [(.int (0 : Int32)), (.ref a)])) rfl rfl (hb hby dj52m21_12) _) ?_
  refine OGets.step (fun _ => XS.istore X0.here hx rfl (hb hby dj52m21_13) rfl (l' := #[.val (.ref a), .val (.int (0 : Int32)), .val (.ref b), .val (.int (0 : Int32)), .val (.int (3 : Int32)), .val (.int (0 : Int32)), .val (.int c0)]) rfl) ?_
  refine OGets.step (fun _ => XS.iload X0.here hx rfl (hb hby dj52m21_15) rfl) ?_
  refine OGets.step (fun _ => XS.sipush X0.here hx rfl (hb hby dj52m21_17)) ?_
  refine OGets.step (fun _ => XS.icmpYes X0.here hx rfl (pc0 := 20) (pc' := 26) rfl (hb hby dj52m21_20) rfl (flt (u0 : ¬ ((255 : Int32) < c0))).2.2.2 (by decide) (by decide)) ?_
  show OGets p e below _ (s₁.setTop (mkF m 26 #[.val (.ref a), .val (.int (0 : Int32)), .val (.ref b), .val (.int (0 : Int32)), .val (.int (3 : Int32)), .val (.int (0 : Int32)), .val (.int c0)] []))
  refine OGets.step (fun _ => XS.aloadN X0.here hx rfl (hb hby dj52m21_26) rfl rfl) ?_
  refine OGets.step (fun _ => XS.iloadN X0.here hx rfl (hb hby dj52m21_27) rfl) ?_
  refine OGets.step (fun _ => XS.iload X0.here hx rfl (hb hby dj52m21_28) rfl) ?_
  refine OGets.step (fun _ => XS.i2b X0.here hx rfl (hb hby dj52m21_30) rfl) ?_
  obtain ⟨cl251, Ar251, S251⟩ := V0.arr 1 rfl
  obtain ⟨T251, h251, X251, e251, W251', st251⟩ := stB X0 hx hZ e0 Ar251 (j := (0 : Int32)) (own_inb S251 0 (by decide) (Nat.le_of_ble_eq_true rfl)) (g := (mkF m 31 #[.val (.ref a), .val (.int (0 : Int32)), .val (.ref b), .val (.int (0 : Int32)), .val (.int (3 : Int32)), .val (.int (0 : Int32)), .val (.int c0)] [(.int (c0.toInt8.toInt32)), (.int (0 : Int32)), (.ref b)])) rfl rfl (hb hby dj52m21_31)
  have W251 := own_wr (vs := []) 0 (by decide) W251'
  have V251 : OView Z n0 h251 (((a, Sum.inr (.char, [(.int c0), (.int c1), (.int c2)])) : Addr × OObj) :: ((b, Sum.inr (.byte, [(.int (yb c0)), (.int (0 : Int32)), (.int (0 : Int32))])) : Addr × OObj) :: F) := V0.putA 1 rfl W251
  have N251 := Fr.snoc X251 N0 (V0.old 1 rfl)
  have Z251 : n0 ≤ h251.size := by rw [W251.size]; exact Z0
  have O251 := O0.wr W251 (V0.old 1 rfl)
  refine OGets.step st251 ?_
  refine OGets.step (fun _ => XS.iinc X251.here hx rfl (hb hby dj52m21_32) rfl (l' := #[.val (.ref a), .val (.int (1 : Int32)), .val (.ref b), .val (.int (0 : Int32)), .val (.int (3 : Int32)), .val (.int (0 : Int32)), .val (.int c0)]) rfl) ?_
  refine OGets.step (fun _ => XS.iinc X251.here hx rfl (hb hby dj52m21_35) rfl (l' := #[.val (.ref a), .val (.int (1 : Int32)), .val (.ref b), .val (.int (1 : Int32)), .val (.int (3 : Int32)), .val (.int (0 : Int32)), .val (.int c0)]) rfl) ?_
  refine OGets.step (fun _ => XS.iinc X251.here hx rfl (hb hby dj52m21_38) rfl (l' := #[.val (.ref a), .val (.int (1 : Int32)), .val (.ref b), .val (.int (1 : Int32)), .val (.int (3 : Int32)), .val (.int (1 : Int32)), .val (.int c0)]) rfl) ?_
  refine OGets.step (fun _ => XS.goto X251.here hx rfl (pc0 := 41) (pc' := 3) rfl (hb hby dj52m21_41) (by decide) (by decide)) ?_
  refine OGets.step (fun _ => XS.iload X251.here hx rfl (hb hby dj52m21_3) rfl) ?_
  show OGets p e below _ (T251.setTop (mkF m 5 #[.val (.ref a), .val (.int (1 : Int32)), .val (.ref b), .val (.int (1 : Int32)), .val (.int (3 : Int32)), .val (.int (1 : Int32)), .val (.int c0)] [(.int (1 : Int32))]))
  refine OGets.step (fun _ => XS.iload X251.here hx rfl (hb hby dj52m21_5) rfl) ?_
  refine OGets.step (fun _ => XS.icmpNo X251.here hx rfl (hb hby dj52m21_7) rfl (tlt (by decide : (1 : Int32) < (3 : Int32))).2.1) ?_
  refine OGets.step (fun _ => XS.aloadN X251.here hx rfl (hb hby dj52m21_10) rfl rfl) ?_
  refine OGets.step (fun _ => XS.iloadN X251.here hx rfl (hb hby dj52m21_11) rfl) ?_
  obtain ⟨cl253, Ar253, S253⟩ := V251.arr 0 rfl
  refine OGets.step (fun _ => X251.caload hx (j := (1 : Int32)) (v := (.int c1)) (by rw [e251]; exact Ar253.1) (State.isArrayOf_alike hZ.alike Ar253.2.1) Ar253.2.2 (own_inb S253 1 (by decide) (Nat.le_of_ble_eq_true rfl)) (own_get S253 1 (by decide) rfl) (g := (mkF m 12 #[.val (.ref a), .val (.int (1 : Int32)), .val (.ref b), .val (.int (1 : Int32)), .val (.int (3 : Int32)), .val (.int (1 : Int32)), .val (.int c0)] [(.int (1 : Int32)), (.ref a)])) rfl rfl (hb hby dj52m21_12) _) ?_
  refine OGets.step (fun _ => XS.istore X251.here hx rfl (hb hby dj52m21_13) rfl (l' := #[.val (.ref a), .val (.int (1 : Int32)), .val (.ref b), .val (.int (1 : Int32)), .val (.int (3 : Int32)), .val (.int (1 : Int32)), .val (.int c1)]) rfl) ?_
  show OGets p e below _ (T251.setTop (mkF m 15 #[.val (.ref a), .val (.int (1 : Int32)), .val (.ref b), .val (.int (1 : Int32)), .val (.int (3 : Int32)), .val (.int (1 : Int32)), .val (.int c1)] []))
  refine OGets.step (fun _ => XS.iload X251.here hx rfl (hb hby dj52m21_15) rfl) ?_
  refine OGets.step (fun _ => XS.sipush X251.here hx rfl (hb hby dj52m21_17)) ?_
  refine OGets.step (fun _ => XS.icmpNo X251.here hx rfl (hb hby dj52m21_20) rfl (tlt (u1 : (255 : Int32) < c1)).2.2.2) ?_
  refine OGets.step (fun _ => XS.iload X251.here hx rfl (hb hby dj52m21_23) rfl) ?_
  refine OGets.retI X251 hx hlk Bd.returns (hb hby dj52m21_25) (Nat.le_of_ble_eq_true rfl) (Nat.le_of_ble_eq_true rfl) ?_
  rw [e251]
  exact ⟨rfl, N251, V251, O251⟩
theorem ef_c3_31 (m : MethodId) (x0 : Addr) (x1 : Int32) (x2 : Int32) : entryFrame m #[(.ref x0), (.int x1), (.int x2)] 6 = mkF m 0 #[.val (.ref x0), .val (.int x1), .val (.int x2), .unset, .unset, .unset] [] := by first | (simp [entryFrame, mkF, argsToLocals, Value.category]; done) | rfl
def Q_c3_31 (Z : State) (a : Addr) (c0 : Int32) (c1 : Int32) (c2 : Int32) (h0 : Heap) (n0 : Nat) (F : List (Addr × OObj)) (v : Option Value) (h : Heap) (L : List Loc) : Prop := ∃ b : Addr, v = some (.ref b) ∧ Fr n0 L ∧ OView Z n0 h (((b, Sum.inr (.byte, [(.int (hb' c0)), (.int (lb' c0)), (.int (hb' c1)), (.int (lb' c1)), (.int (hb' c2)), (.int (lb' c2))])) : Addr × OObj) :: ((a, Sum.inr (.char, [(.int c0), (.int c1), (.int c2)])) : Addr × OObj) :: F) ∧ Old Z n0 h
set_option maxRecDepth 65536 in
set_option maxHeartbeats 40000000 in
theorem rm_c3_31 (l : Launch) (Z : State) (a0 : Array Value) (hw : ∀ d ∈ tables_1, d.before a0 Z = true) (ws : List Jvm.Cond) (a : Addr) (c0 : Int32) (c1 : Int32) (c2 : Int32) (h0 : Heap) (n0 : Nat) (F : List (Addr × OObj)) (Z0 : n0 ≤ h0.size) (SA : Sta Z Z.heap "java/lang/StringUTF16" "$assertionsDisabled" "Z" (.int (1 : Int32))) (SH : Sta Z Z.heap "java/lang/StringUTF16" "HI_BYTE_SHIFT" "I" (.int (0 : Int32))) (SL : Sta Z Z.heap "java/lang/StringUTF16" "LO_BYTE_SHIFT" "I" (.int (8 : Int32))) (u0 : ¬ (255 : Int32) < c0) (u1 : (255 : Int32) < c1) (w1 : Ch c1) (V0 : OView Z n0 h0 (((a, Sum.inr (.char, [(.int c0), (.int c1), (.int c2)])) : Addr × OObj) :: F)) (O0 : Old Z n0 h0) :
    MetFree l (⟨"java/lang/StringUTF16", "compress", "([CII)[B"⟩ : MethodName) (head1 (Jvm.Cond.code (⟨"java/lang/StringUTF16", "compress", "([CII)[B"⟩ : MethodName) jdk_52_method_16_code 6 (some (.array .byte)) :: ws) ({ frames := 3, cells := 2, slots := 9, locals := 40 } : Room)) (fun a_ U => a_ = #[(.ref a), (.int (0 : Int32)), (.int (3 : Int32))] ∧ Z.Warmed39 U.vm ∧ U.heap = h0) (fun _ _ _ _ _ => True) (fun _ U o U' => ∃ v L, o = .returned v ∧ Q_c3_31 Z a c0 c1 c2 h0 n0 F v U'.heap L ∧ FrameEnd U o U' L ({ frames := 3, cells := 2, slots := 9, locals := 40 } : Room).cells ({ frames := 3, cells := 2, slots := 9, locals := 40 } : Room).slots) := by
  refine MetFree.of_bodySF (plainFor_of_name pn_1) hisR ?_
  intro p e s m args below meth c s₁ Bd hml0 hP hK
  obtain ⟨rfl, hZ, hh⟩ := hP
  have hx := Bd.exec
  have hby := Bd.bytes
  have hlk : meth.locks = false := Bd.notSynchronized
  have hml : c.maxLocals = 6 := hml0
  have hown : s.vm.findClass "java/lang/StringUTF16" = some m.cls := findClass_of_methodNamed Bd.named
  have hnm := (name_of_methodNamed Bd.named Bd.method).1
  have X0 : Stand p l e ({ frames := 3, cells := 2, slots := 9, locals := 40 } : Room) s m #[(.ref a), (.int (0 : Int32)), (.int (3 : Int32))] below meth c s₁ [] 0 0 := Stand.of_body Bd
  have e0 : s₁.heap = h0 := by rw [← hh, Bd.state]; rfl
  have N0 := Fr.nil n0
  show OGets p e below (OLeaves s (Q_c3_31 Z a c0 c1 c2 h0 n0 F ) ({ frames := 3, cells := 2, slots := 9, locals := 40 } : Room).cells ({ frames := 3, cells := 2, slots := 9, locals := 40 } : Room).slots) _
  refine OGets.enter (ef_c3_31 m a (0 : Int32) (3 : Int32)) ?_
  show OGets p e below _ (s₁.setTop (mkF m 0 #[.val (.ref a), .val (.int (0 : Int32)), .val (.int (3 : Int32)), .unset, .unset, .unset] []))
  refine OGets.step (fun _ => XS.iloadN X0.here hx rfl (hb hby dj52m16_0) rfl) ?_
  obtain ⟨T255, h255, k255, X255, e255, E255, A255, st255⟩ := newP X0 hx hZ (hw _ (List.mem_of_getElem? (i := 21) rfl)) e0 (g := (mkF m 1 #[.val (.ref a), .val (.int (0 : Int32)), .val (.int (3 : Int32)), .unset, .unset, .unset] [(.int (3 : Int32))])) rfl (hb hby dj52m16_1) rfl (by decide) (cap := 3) (by decide) (by decide) (by decide) (by decide)
  have V255' := V0.newArr Z0 E255 A255 3 rfl
  have Z255 : n0 ≤ h255.size := Nat.le_trans Z0 E255.1
  obtain ⟨b255, g255⟩ : ∃ z, z = h0.size := ⟨_, rfl⟩
  rw [← g255] at V255' st255
  have V255 : OView Z n0 h255 (((b255, Sum.inr (.byte, [(.int (0 : Int32)), (.int (0 : Int32)), (.int (0 : Int32))])) : Addr × OObj) :: ((a, Sum.inr (.char, [(.int c0), (.int c1), (.int c2)])) : Addr × OObj) :: F) := V255'
  have O255 := O0.ext E255
  refine OGets.step st255 ?_
  refine OGets.step (fun _ => XS.astoreN X255.here hx rfl (hb hby dj52m16_3) rfl rfl (l' := #[.val (.ref a), .val (.int (0 : Int32)), .val (.int (3 : Int32)), .val (.ref b255), .unset, .unset]) rfl) ?_
  refine OGets.step (fun _ => XS.aloadN X255.here hx rfl (hb hby dj52m16_4) rfl rfl) ?_
  refine OGets.step (fun _ => XS.iloadN X255.here hx rfl (hb hby dj52m16_5) rfl) ?_
  refine OGets.step (fun _ => XS.aloadN X255.here hx rfl (hb hby dj52m16_6) rfl rfl) ?_
  refine OGets.step (fun _ => XS.iconst X255.here hx rfl (hb hby dj52m16_7)) ?_
  show OGets p e below _ (T255.setTop (mkF m 8 #[.val (.ref a), .val (.int (0 : Int32)), .val (.int (3 : Int32)), .val (.ref b255), .unset, .unset] [(.int (0 : Int32)), (.ref b255), (.int (0 : Int32)), (.ref a)]))
  refine OGets.step (fun _ => XS.iloadN X255.here hx rfl (hb hby dj52m16_8) rfl) ?_
  have V256_ : OView Z _ h255 (((a, Sum.inr (.char, [(.int c0), (.int c1), (.int c2)])) : Addr × OObj) :: ((b255, Sum.inr (.byte, [(.int (0 : Int32)), (.int (0 : Int32)), (.int (0 : Int32))])) : Addr × OObj) :: F) := (V255.bring 1 rfl)
  obtain ⟨_, _, ⟨T256, L256, k256, n256⟩, -, X256, ⟨Lc256, hQ256, l256, y256, z256⟩, st256⟩ := Jvm.LawKit.callS X255 hx (y := (⟨"java/lang/StringUTF16", "compress", "([CI[BII)I"⟩ : MethodName)) hown (mvT hZ (hw _ (List.mem_of_getElem? (i := 49) rfl))) (mvT hZ (hw _ (List.mem_of_getElem? (i := 50) rfl))) (mvT hZ (hw _ (List.mem_of_getElem? (i := 47) rfl))) (mvT hZ (hw _ (List.mem_of_getElem? (i := 51) rfl))) (by decide) (backOf (W := 0) (rm_c5_31 l Z a0 hw [] a b255 c0 c1 c2 h255 n0 _ Z255 u0 u1 V256_ O255) hZ (hw _ (List.mem_of_getElem? (i := 51) rfl)) (hw _ (List.mem_of_getElem? (i := 47) rfl)) (by decide) (by decide)) (g := (mkF m 9 #[.val (.ref a), .val (.int (0 : Int32)), .val (.int (3 : Int32)), .val (.ref b255), .unset, .unset] [(.int (3 : Int32)), (.int (0 : Int32)), (.ref b255), (.int (0 : Int32)), (.ref a)])) rfl (by rw [hml]; rfl) (argsL := [(.ref a), (.int (0 : Int32)), (.ref b255), (.int (0 : Int32)), (.int (3 : Int32))]) (rest := []) (lenOf pd_5 rfl) rfl (by show 2 * 0 + _ ≤ _; exact Nat.le_of_eq rfl) (hb hby dj52m16_9) (fun _ _ => ⟨rfl, e255, Nat.le_of_ble_eq_true rfl, Nat.le_of_ble_eq_true rfl⟩)
  dsimp only [Pt.U, Pt.locs, Pt.cells, Pt.slots] at X256 l256 y256 z256 st256 hQ256
  rw [l256, y256, z256] at X256
  obtain ⟨rfl, N256q, V256, O256q⟩ := hQ256
  have N256 := Fr.app N0 N256q
  have V256v : OView Z n0 T256.heap (((a, Sum.inr (.char, [(.int c0), (.int c1), (.int c2)])) : Addr × OObj) :: ((b255, Sum.inr (.byte, [(.int (yb c0)), (.int (0 : Int32)), (.int (0 : Int32))])) : Addr × OObj) :: F) := V256
  have Z256 : n0 ≤ T256.heap.size := V256v.big 0 rfl
  refine OGets.step st256 ?_
  refine OGets.step (fun _ => XS.istore X256.here hx rfl (hb hby dj52m16_12) rfl (l' := #[.val (.ref a), .val (.int (0 : Int32)), .val (.int (3 : Int32)), .val (.ref b255), .val (.int (1 : Int32)), .unset]) rfl) ?_
  refine OGets.step (fun _ => XS.iload X256.here hx rfl (hb hby dj52m16_14) rfl) ?_
  refine OGets.step (fun _ => XS.iloadN X256.here hx rfl (hb hby dj52m16_16) rfl) ?_
  refine OGets.step (fun _ => XS.icmpNo X256.here hx rfl (hb hby dj52m16_17) rfl (feq (by decide : ¬ ((1 : Int32) = (3 : Int32)))).1) ?_
  refine OGets.step (fun _ => XS.aloadN X256.here hx rfl (hb hby dj52m16_20) rfl rfl) ?_
  show OGets p e below _ (T256.setTop (mkF m 21 #[.val (.ref a), .val (.int (0 : Int32)), .val (.int (3 : Int32)), .val (.ref b255), .val (.int (1 : Int32)), .unset] [(.ref a)]))
  refine OGets.step (fun _ => XS.iloadN X256.here hx rfl (hb hby dj52m16_21) rfl) ?_
  refine OGets.step (fun _ => XS.iloadN X256.here hx rfl (hb hby dj52m16_22) rfl) ?_
  obtain ⟨_, _, ⟨T258, L258, k258, n258⟩, -, X258, ⟨Lc258, hQ258, l258, y258, z258⟩, st258⟩ := Jvm.LawKit.callS X256 hx (y := (⟨"java/lang/StringUTF16", "toBytes", "([CII)[B"⟩ : MethodName)) hown (mvT hZ (hw _ (List.mem_of_getElem? (i := 55) rfl))) (mvT hZ (hw _ (List.mem_of_getElem? (i := 56) rfl))) (mvT hZ (hw _ (List.mem_of_getElem? (i := 47) rfl))) (mvT hZ (hw _ (List.mem_of_getElem? (i := 57) rfl))) (by decide) (backOf (W := 0) (rm_tob3 l Z a0 hw [] a c0 c1 c2 T256.heap n0 _ Z256 SA SH SL V256v O256q) hZ (hw _ (List.mem_of_getElem? (i := 57) rfl)) (hw _ (List.mem_of_getElem? (i := 47) rfl)) (by decide) (by decide)) (g := (mkF m 23 #[.val (.ref a), .val (.int (0 : Int32)), .val (.int (3 : Int32)), .val (.ref b255), .val (.int (1 : Int32)), .unset] [(.int (3 : Int32)), (.int (0 : Int32)), (.ref a)])) rfl (by rw [hml]; rfl) (argsL := [(.ref a), (.int (0 : Int32)), (.int (3 : Int32))]) (rest := []) (lenOf pd_6 rfl) rfl (by show 2 * 0 + _ ≤ _; exact Nat.le_of_eq rfl) (hb hby dj52m16_23) (fun _ _ => ⟨rfl, rfl, Nat.le_of_ble_eq_true rfl, Nat.le_of_ble_eq_true rfl⟩)
  dsimp only [Pt.U, Pt.locs, Pt.cells, Pt.slots] at X258 l258 y258 z258 st258 hQ258
  rw [l258, y258, z258] at X258
  obtain ⟨b258, rfl, N258q, V258, O258q⟩ := hQ258
  have N258 := Fr.app N256 N258q
  have V258v : OView Z n0 T258.heap (((b258, Sum.inr (.byte, [(.int (hb' c0)), (.int (lb' c0)), (.int (hb' c1)), (.int (lb' c1)), (.int (hb' c2)), (.int (lb' c2))])) : Addr × OObj) :: ((a, Sum.inr (.char, [(.int c0), (.int c1), (.int c2)])) : Addr × OObj) :: ((b255, Sum.inr (.byte, [(.int (yb c0)), (.int (0 : Int32)), (.int (0 : Int32))])) : Addr × OObj) :: F) := V258
  have Z258 : n0 ≤ T258.heap.size := V258v.big 0 rfl
  refine OGets.step st258 ?_
  refine OGets.step (fun _ => XS.astore X258.here hx rfl (hb hby dj52m16_26) rfl rfl (l' := #[.val (.ref a), .val (.int (0 : Int32)), .val (.int (3 : Int32)), .val (.ref b255), .val (.int (1 : Int32)), .val (.ref b258)]) rfl) ?_
  refine OGets.step (fun _ => XS.aload X258.here hx rfl (hb hby dj52m16_28) rfl rfl) ?_
  refine OGets.step (fun _ => XS.iload X258.here hx rfl (hb hby dj52m16_30) rfl) ?_
  obtain ⟨_, _, ⟨T259, L259, k259, n259⟩, -, X259, ⟨Lc259, hQ259, l259, y259, z259⟩, st259⟩ := Jvm.LawKit.callS X258 hx (y := (⟨"java/lang/StringUTF16", "getChar", "([BI)C"⟩ : MethodName)) hown (mvT hZ (hw _ (List.mem_of_getElem? (i := 71) rfl))) (mvT hZ (hw _ (List.mem_of_getElem? (i := 72) rfl))) (mvT hZ (hw _ (List.mem_of_getElem? (i := 47) rfl))) (mvT hZ (hw _ (List.mem_of_getElem? (i := 73) rfl))) (by decide) (backOf (W := 0) (rm_gch31 l Z a0 hw [] b258 (hb' c0) (lb' c0) (hb' c1) (lb' c1) (hb' c2) (lb' c2) T258.heap n0 _ Z258 SA SH SL V258v O258q) hZ (hw _ (List.mem_of_getElem? (i := 73) rfl)) (hw _ (List.mem_of_getElem? (i := 47) rfl)) (by decide) (by decide)) (g := (mkF m 32 #[.val (.ref a), .val (.int (0 : Int32)), .val (.int (3 : Int32)), .val (.ref b255), .val (.int (1 : Int32)), .val (.ref b258)] [(.int (1 : Int32)), (.ref b258)])) rfl (by rw [hml]; rfl) (argsL := [(.ref b258), (.int (1 : Int32))]) (rest := []) (lenOf pd_7 rfl) rfl (by show 2 * 0 + _ ≤ _; exact Nat.le_of_eq rfl) (hb hby dj52m16_32) (fun _ _ => ⟨rfl, rfl, Nat.le_of_ble_eq_true rfl, Nat.le_of_ble_eq_true rfl⟩)
  dsimp only [Pt.U, Pt.locs, Pt.cells, Pt.slots] at X259 l259 y259 z259 st259 hQ259
  rw [l259, y259, z259] at X259
  obtain ⟨rfl, rfl, e259⟩ := hQ259
  have N259 := Fr.app N258 (Fr.nil n0)
  refine OGets.step st259 ?_
  refine OGets.step (fun _ => XS.sipush X259.here hx rfl (hb hby dj52m16_35)) ?_
  refine OGets.step (fun _ => XS.icmpYes X259.here hx rfl (pc0 := 38) (pc' := 54) rfl (hb hby dj52m16_38) rfl (tlt (own_gc w1 u1 : (255 : Int32) < (gcv (hb' c1) (lb' c1)))).2.2.1 (by decide) (by decide)) ?_
  refine OGets.step (fun _ => XS.aload X259.here hx rfl (hb hby dj52m16_54) rfl rfl) ?_
  refine OGets.retA X259 hx hlk (t := (.array .byte)) Bd.returns rfl rfl rfl (hb hby dj52m16_56) (Nat.le_of_ble_eq_true rfl) (Nat.le_of_ble_eq_true rfl) ?_
  have Vd261 : OView Z _ T258.heap (((b258, Sum.inr (.byte, [(.int (hb' c0)), (.int (lb' c0)), (.int (hb' c1)), (.int (lb' c1)), (.int (hb' c2)), (.int (lb' c2))])) : Addr × OObj) :: ((a, Sum.inr (.char, [(.int c0), (.int c1), (.int c2)])) : Addr × OObj) :: F) := (V258v.bring 2 rfl).tail
  rw [e259]
  exact ⟨b258, rfl, N259, Vd261, O258q⟩
theorem ef_i4_31 (m : MethodId) (x0 : Addr) (x1 : Addr) (x2 : Int32) (x3 : Int32) : entryFrame m #[(.ref x0), (.ref x1), (.int x2), (.int x3), .null] 6 = mkF m 0 #[.val (.ref x0), .val (.ref x1), .val (.int x2), .val (.int x3), .val .null, .unset] [] := by first | (simp [entryFrame, mkF, argsToLocals, Value.category]; done) | rfl
def Q_i4_31 (Z : State) (a : Addr) (q : Addr) (G : Int32) (c0 : Int32) (c1 : Int32) (c2 : Int32) (h0 : Heap) (n0 : Nat) (F : List (Addr × OObj)) (v : Option Value) (h : Heap) (L : List Loc) : Prop := v = none ∧ Fr n0 L ∧ ∃ b : Addr, OView Z n0 h (((a, Sum.inl ("java/lang/String", ns_String, [(.ref b), (.int (1 : Int32))])) : Addr × OObj) :: ((b, Sum.inr (.byte, [(.int (hb' c0)), (.int (lb' c0)), (.int (hb' c1)), (.int (lb' c1)), (.int (hb' c2)), (.int (lb' c2))])) : Addr × OObj) :: ((q, Sum.inr (.char, [(.int c0), (.int c1), (.int c2)])) : Addr × OObj) :: F) ∧ Old Z n0 h
set_option maxRecDepth 65536 in
set_option maxHeartbeats 40000000 in
theorem rm_i4_31 (l : Launch) (Z : State) (a0 : Array Value) (hw : ∀ d ∈ tables_1, d.before a0 Z = true) (ws : List Jvm.Cond) (a : Addr) (q : Addr) (G : Int32) (c0 : Int32) (c1 : Int32) (c2 : Int32) (h0 : Heap) (n0 : Nat) (F : List (Addr × OObj)) (Z0 : n0 ≤ h0.size) (S0 : Sta Z Z.heap "java/lang/String" "COMPACT_STRINGS" "Z" (.int G)) (hG : ¬ G = (0 : Int32)) (SA : Sta Z Z.heap "java/lang/StringUTF16" "$assertionsDisabled" "Z" (.int (1 : Int32))) (SH : Sta Z Z.heap "java/lang/StringUTF16" "HI_BYTE_SHIFT" "I" (.int (0 : Int32))) (SL : Sta Z Z.heap "java/lang/StringUTF16" "LO_BYTE_SHIFT" "I" (.int (8 : Int32))) (u0 : ¬ (255 : Int32) < c0) (u1 : (255 : Int32) < c1) (w1 : Ch c1) (V0 : OView Z n0 h0 (((a, Sum.inl ("java/lang/String", ns_String, [.null, (.int (0 : Int32))])) : Addr × OObj) :: ((q, Sum.inr (.char, [(.int c0), (.int c1), (.int c2)])) : Addr × OObj) :: F)) (O0 : Old Z n0 h0) :
    MetFree l (⟨"java/lang/String", "<init>", "([CIILjava/lang/Void;)V"⟩ : MethodName) (head1 (Jvm.Cond.code (⟨"java/lang/String", "<init>", "([CIILjava/lang/Void;)V"⟩ : MethodName) jdk_42_method_149_code 6 none :: ws) ({ frames := 4, cells := 2, slots := 9, locals := 57 } : Room)) (fun a_ U => a_ = #[(.ref a), (.ref q), (.int (0 : Int32)), (.int (3 : Int32)), .null] ∧ Z.Warmed39 U.vm ∧ U.heap = h0) (fun _ _ _ _ _ => True) (fun _ U o U' => ∃ v L, o = .returned v ∧ Q_i4_31 Z a q G c0 c1 c2 h0 n0 F v U'.heap L ∧ FrameEnd U o U' L ({ frames := 4, cells := 2, slots := 9, locals := 57 } : Room).cells ({ frames := 4, cells := 2, slots := 9, locals := 57 } : Room).slots) := by
  refine MetFree.of_bodySF (plainFor_of_name pn_8) hisR ?_
  intro p e s m args below meth c s₁ Bd hml0 hP hK
  obtain ⟨rfl, hZ, hh⟩ := hP
  have hx := Bd.exec
  have hby := Bd.bytes
  have hlk : meth.locks = false := Bd.notSynchronized
  have hml : c.maxLocals = 6 := hml0
  have hown : s.vm.findClass "java/lang/String" = some m.cls := findClass_of_methodNamed Bd.named
  have hnm := (name_of_methodNamed Bd.named Bd.method).1
  have X0 : Stand p l e ({ frames := 4, cells := 2, slots := 9, locals := 57 } : Room) s m #[(.ref a), (.ref q), (.int (0 : Int32)), (.int (3 : Int32)), .null] below meth c s₁ [] 0 0 := Stand.of_body Bd
  have e0 : s₁.heap = h0 := by rw [← hh, Bd.state]; rfl
  have N0 := Fr.nil n0
  show OGets p e below (OLeaves s (Q_i4_31 Z a q G c0 c1 c2 h0 n0 F ) ({ frames := 4, cells := 2, slots := 9, locals := 57 } : Room).cells ({ frames := 4, cells := 2, slots := 9, locals := 57 } : Room).slots) _
  refine OGets.enter (ef_i4_31 m a q (0 : Int32) (3 : Int32)) ?_
  show OGets p e below _ (s₁.setTop (mkF m 0 #[.val (.ref a), .val (.ref q), .val (.int (0 : Int32)), .val (.int (3 : Int32)), .val .null, .unset] []))
  refine OGets.step (fun _ => XS.aloadN X0.here hx rfl (hb hby dj42m149_0) rfl rfl) ?_
  obtain ⟨T262, X262, e262, st262⟩ := initO X0 hx hZ hown (hw _ (List.mem_of_getElem? (i := 17) rfl)) (hw _ (List.mem_of_getElem? (i := 18) rfl)) (hw _ (List.mem_of_getElem? (i := 19) rfl)) e0 (g := (mkF m 1 #[.val (.ref a), .val (.ref q), .val (.int (0 : Int32)), .val (.int (3 : Int32)), .val .null, .unset] [(.ref a)])) rfl (by rw [hml]; rfl) rfl (hb hby dj42m149_1) (by decide) (W := 0) (by show 2 * 0 + _ ≤ _; exact Nat.le_of_eq rfl) (by decide)
  refine OGets.step st262 ?_
  refine OGets.step (fun _ => XS.iloadN X262.here hx rfl (hb hby dj42m149_4) rfl) ?_
  refine OGets.step (fun _ => XS.ifYes X262.here hx rfl (pc0 := 5) (pc' := 27) rfl (hb hby dj42m149_5) rfl ((if0 _ _).trans (feq (by decide : ¬ ((3 : Int32) = (0 : Int32)))).2) (by decide) (by decide)) ?_
  obtain ⟨T264, X264, e264, st264⟩ := getS2 X262 hx hZ hown (host := "") (Or.inl (hw _ (List.mem_of_getElem? (i := 39) rfl))) Via.refl e262 (S0.ext O0.2) (g := (mkF m 27 #[.val (.ref a), .val (.ref q), .val (.int (0 : Int32)), .val (.int (3 : Int32)), .val .null, .unset] [])) rfl (hb hby dj42m149_27)
  refine OGets.step st264 ?_
  refine OGets.step (fun _ => XS.ifNo X264.here hx rfl (hb hby dj42m149_30) rfl ((if0 _ _).trans (feq (hG : ¬ (G = (0 : Int32)))).1)) ?_
  refine OGets.step (fun _ => XS.aloadN X264.here hx rfl (hb hby dj42m149_33) rfl rfl) ?_
  refine OGets.step (fun _ => XS.iloadN X264.here hx rfl (hb hby dj42m149_34) rfl) ?_
  refine OGets.step (fun _ => XS.iloadN X264.here hx rfl (hb hby dj42m149_35) rfl) ?_
  have V266_ : OView Z _ h0 (((q, Sum.inr (.char, [(.int c0), (.int c1), (.int c2)])) : Addr × OObj) :: ((a, Sum.inl ("java/lang/String", ns_String, [.null, (.int (0 : Int32))])) : Addr × OObj) :: F) := (V0.bring 1 rfl)
  obtain ⟨_, _, ⟨T266, L266, k266, n266⟩, -, X266, ⟨Lc266, hQ266, l266, y266, z266⟩, st266⟩ := Jvm.LawKit.callS X264 hx (y := (⟨"java/lang/StringUTF16", "compress", "([CII)[B"⟩ : MethodName)) hown (mvT hZ (hw _ (List.mem_of_getElem? (i := 45) rfl))) (mvT hZ (hw _ (List.mem_of_getElem? (i := 46) rfl))) (mvT hZ (hw _ (List.mem_of_getElem? (i := 47) rfl))) (mvT hZ (hw _ (List.mem_of_getElem? (i := 48) rfl))) (by decide) (backOf (W := 0) (rm_c3_31 l Z a0 hw [] q c0 c1 c2 h0 n0 _ Z0 SA SH SL u0 u1 w1 V266_ O0) hZ (hw _ (List.mem_of_getElem? (i := 48) rfl)) (hw _ (List.mem_of_getElem? (i := 47) rfl)) (by decide) (by decide)) (g := (mkF m 36 #[.val (.ref a), .val (.ref q), .val (.int (0 : Int32)), .val (.int (3 : Int32)), .val .null, .unset] [(.int (3 : Int32)), (.int (0 : Int32)), (.ref q)])) rfl (by rw [hml]; rfl) (argsL := [(.ref q), (.int (0 : Int32)), (.int (3 : Int32))]) (rest := []) (lenOf pd_6 rfl) rfl (by show 2 * 0 + _ ≤ _; exact Nat.le_of_eq rfl) (hb hby dj42m149_36) (fun _ _ => ⟨rfl, e264, Nat.le_of_ble_eq_true rfl, Nat.le_of_ble_eq_true rfl⟩)
  dsimp only [Pt.U, Pt.locs, Pt.cells, Pt.slots] at X266 l266 y266 z266 st266 hQ266
  rw [l266, y266, z266] at X266
  obtain ⟨b266, rfl, N266q, V266, O266q⟩ := hQ266
  have N266 := Fr.app N0 N266q
  have V266v : OView Z n0 T266.heap (((b266, Sum.inr (.byte, [(.int (hb' c0)), (.int (lb' c0)), (.int (hb' c1)), (.int (lb' c1)), (.int (hb' c2)), (.int (lb' c2))])) : Addr × OObj) :: ((q, Sum.inr (.char, [(.int c0), (.int c1), (.int c2)])) : Addr × OObj) :: ((a, Sum.inl ("java/lang/String", ns_String, [.null, (.int (0 : Int32))])) : Addr × OObj) :: F) := V266
  have Z266 : n0 ≤ T266.heap.size := V266v.big 0 rfl
  refine OGets.step st266 ?_
  refine OGets.step (fun _ => XS.astore X266.here hx rfl (hb hby dj42m149_39) rfl rfl (l' := #[.val (.ref a), .val (.ref q), .val (.int (0 : Int32)), .val (.int (3 : Int32)), .val .null, .val (.ref b266)]) rfl) ?_
  refine OGets.step (fun _ => XS.aloadN X266.here hx rfl (hb hby dj42m149_41) rfl rfl) ?_
  refine OGets.step (fun _ => XS.aload X266.here hx rfl (hb hby dj42m149_42) rfl rfl) ?_
  refine OGets.step (fun _ => XS.iloadN X266.here hx rfl (hb hby dj42m149_44) rfl) ?_
  obtain ⟨_, _, ⟨T267, L267, k267, n267⟩, -, X267, ⟨Lc267, hQ267, l267, y267, z267⟩, st267⟩ := Jvm.LawKit.callS X266 hx (y := (⟨"java/lang/StringUTF16", "coderFromArrayLen", "([BI)B"⟩ : MethodName)) hown (mvT hZ (hw _ (List.mem_of_getElem? (i := 52) rfl))) (mvT hZ (hw _ (List.mem_of_getElem? (i := 53) rfl))) (mvT hZ (hw _ (List.mem_of_getElem? (i := 47) rfl))) (mvT hZ (hw _ (List.mem_of_getElem? (i := 54) rfl))) (by decide) (backOf (W := 1) (rm_cfl31 l Z a0 hw [] b266 (hb' c0) (lb' c0) (hb' c1) (lb' c1) (hb' c2) (lb' c2) T266.heap n0 _ Z266  V266v) hZ (hw _ (List.mem_of_getElem? (i := 54) rfl)) (hw _ (List.mem_of_getElem? (i := 47) rfl)) (by decide) (by decide)) (g := (mkF m 45 #[.val (.ref a), .val (.ref q), .val (.int (0 : Int32)), .val (.int (3 : Int32)), .val .null, .val (.ref b266)] [(.int (3 : Int32)), (.ref b266), (.ref a)])) rfl (by rw [hml]; rfl) (argsL := [(.ref b266), (.int (3 : Int32))]) (rest := [(.ref a)]) (lenOf pd_9 rfl) rfl (by show 2 * 0 + _ ≤ _; exact Nat.le_of_eq rfl) (hb hby dj42m149_45) (fun _ _ => ⟨rfl, rfl, Nat.le_of_ble_eq_true rfl, Nat.le_of_ble_eq_true rfl⟩)
  dsimp only [Pt.U, Pt.locs, Pt.cells, Pt.slots] at X267 l267 y267 z267 st267 hQ267
  rw [l267, y267, z267] at X267
  obtain ⟨rfl, rfl, e267⟩ := hQ267
  have N267 := Fr.app N266 (Fr.nil n0)
  refine OGets.step st267 ?_
  obtain ⟨T268, h268, X268, e268, W268, st268⟩ := putFN X267 hx hZ hown (hw _ (List.mem_of_getElem? (i := 27) rfl)) Via.refl e267 (V266v.fld 2 rfl 1 rfl rfl) (V266v.exa 2 rfl) (Or.inr ⟨(hw _ (List.mem_of_getElem? (i := 23) rfl)), rfl, hnm⟩) (hw _ (List.mem_of_getElem? (i := 7) rfl)) (ty := .byte) (v' := (.int (1 : Int32))) (by decide) rfl (by decide) (g := (mkF m 48 #[.val (.ref a), .val (.ref q), .val (.int (0 : Int32)), .val (.int (3 : Int32)), .val .null, .val (.ref b266)] [(.int (1 : Int32)), (.ref a)])) rfl rfl (hb hby dj42m149_48)
  have V268 : OView Z n0 h268 (((b266, Sum.inr (.byte, [(.int (hb' c0)), (.int (lb' c0)), (.int (hb' c1)), (.int (lb' c1)), (.int (hb' c2)), (.int (lb' c2))])) : Addr × OObj) :: ((q, Sum.inr (.char, [(.int c0), (.int c1), (.int c2)])) : Addr × OObj) :: ((a, Sum.inl ("java/lang/String", ns_String, [.null, (.int (1 : Int32))])) : Addr × OObj) :: F) := V266v.putF 2 rfl 1 rfl W268
  have N268 := Fr.snoc X268 N267 (V266v.old 2 rfl)
  have Z268 : n0 ≤ h268.size := by rw [W268.size]; exact Z266
  have O268 := O266q.wr W268 (V266v.old 2 rfl)
  refine OGets.step st268 ?_
  refine OGets.step (fun _ => XS.aloadN X268.here hx rfl (hb hby dj42m149_51) rfl rfl) ?_
  refine OGets.step (fun _ => XS.aload X268.here hx rfl (hb hby dj42m149_52) rfl rfl) ?_
  obtain ⟨T269, h269, X269, e269, W269, st269⟩ := putF X268 hx hZ hown (host := "") (Or.inl (hw _ (List.mem_of_getElem? (i := 26) rfl))) Via.refl e268 (V268.fld 2 rfl 0 rfl rfl) (V268.exa 2 rfl) (Or.inr ⟨(hw _ (List.mem_of_getElem? (i := 22) rfl)), rfl, hnm⟩) (hw _ (List.mem_of_getElem? (i := 7) rfl)) (ty := (.array .byte)) (by decide) rfl rfl (g := (mkF m 54 #[.val (.ref a), .val (.ref q), .val (.int (0 : Int32)), .val (.int (3 : Int32)), .val .null, .val (.ref b266)] [(.ref b266), (.ref a)])) rfl rfl (hb hby dj42m149_54)
  have V269 : OView Z n0 h269 (((b266, Sum.inr (.byte, [(.int (hb' c0)), (.int (lb' c0)), (.int (hb' c1)), (.int (lb' c1)), (.int (hb' c2)), (.int (lb' c2))])) : Addr × OObj) :: ((q, Sum.inr (.char, [(.int c0), (.int c1), (.int c2)])) : Addr × OObj) :: ((a, Sum.inl ("java/lang/String", ns_String, [(.ref b266), (.int (1 : Int32))])) : Addr × OObj) :: F) := V268.putF 2 rfl 0 rfl W269
  have N269 := Fr.snoc X269 N268 (V268.old 2 rfl)
  have Z269 : n0 ≤ h269.size := by rw [W269.size]; exact Z268
  have O269 := O268.wr W269 (V268.old 2 rfl)
  refine OGets.step st269 ?_
  refine OGets.retV X269 hx hlk Bd.returns (hb hby dj42m149_57) (Nat.le_of_ble_eq_true rfl) (Nat.le_of_ble_eq_true rfl) ?_
  have Vp270 : OView Z _ h269 (((a, Sum.inl ("java/lang/String", ns_String, [(.ref b266), (.int (1 : Int32))])) : Addr × OObj) :: ((b266, Sum.inr (.byte, [(.int (hb' c0)), (.int (lb' c0)), (.int (hb' c1)), (.int (lb' c1)), (.int (hb' c2)), (.int (lb' c2))])) : Addr × OObj) :: ((q, Sum.inr (.char, [(.int c0), (.int c1), (.int c2)])) : Addr × OObj) :: F) := (V269.bring 2 rfl)
  rw [e269]
  exact ⟨rfl, N269, b266, Vp270, O269⟩
theorem ef_i1_31 (m : MethodId) (x0 : Addr) (x1 : Addr) : entryFrame m #[(.ref x0), (.ref x1)] 2 = mkF m 0 #[.val (.ref x0), .val (.ref x1)] [] := by first | (simp [entryFrame, mkF, argsToLocals, Value.category]; done) | rfl
def Q_i1_31 (Z : State) (a : Addr) (q : Addr) (G : Int32) (c0 : Int32) (c1 : Int32) (c2 : Int32) (h0 : Heap) (n0 : Nat) (F : List (Addr × OObj)) (v : Option Value) (h : Heap) (L : List Loc) : Prop := v = none ∧ Fr n0 L ∧ ∃ b : Addr, OView Z n0 h (((a, Sum.inl ("java/lang/String", ns_String, [(.ref b), (.int (1 : Int32))])) : Addr × OObj) :: ((b, Sum.inr (.byte, [(.int (hb' c0)), (.int (lb' c0)), (.int (hb' c1)), (.int (lb' c1)), (.int (hb' c2)), (.int (lb' c2))])) : Addr × OObj) :: ((q, Sum.inr (.char, [(.int c0), (.int c1), (.int c2)])) : Addr × OObj) :: F) ∧ Old Z n0 h
set_option maxRecDepth 65536 in
set_option maxHeartbeats 40000000 in
theorem rm_i1_31 (l : Launch) (Z : State) (a0 : Array Value) (hw : ∀ d ∈ tables_1, d.before a0 Z = true) (ws : List Jvm.Cond) (a : Addr) (q : Addr) (G : Int32) (c0 : Int32) (c1 : Int32) (c2 : Int32) (h0 : Heap) (n0 : Nat) (F : List (Addr × OObj)) (Z0 : n0 ≤ h0.size) (S0 : Sta Z Z.heap "java/lang/String" "COMPACT_STRINGS" "Z" (.int G)) (hG : ¬ G = (0 : Int32)) (SA : Sta Z Z.heap "java/lang/StringUTF16" "$assertionsDisabled" "Z" (.int (1 : Int32))) (SH : Sta Z Z.heap "java/lang/StringUTF16" "HI_BYTE_SHIFT" "I" (.int (0 : Int32))) (SL : Sta Z Z.heap "java/lang/StringUTF16" "LO_BYTE_SHIFT" "I" (.int (8 : Int32))) (u0 : ¬ (255 : Int32) < c0) (u1 : (255 : Int32) < c1) (w1 : Ch c1) (V0 : OView Z n0 h0 (((a, Sum.inl ("java/lang/String", ns_String, [.null, (.int (0 : Int32))])) : Addr × OObj) :: ((q, Sum.inr (.char, [(.int c0), (.int c1), (.int c2)])) : Addr × OObj) :: F)) (O0 : Old Z n0 h0) :
    MetFree l (⟨"java/lang/String", "<init>", "([C)V"⟩ : MethodName) (head1 (Jvm.Cond.code (⟨"java/lang/String", "<init>", "([C)V"⟩ : MethodName) jdk_42_method_3_code 2 none :: ws) ({ frames := 5, cells := 2, slots := 9, locals := 74 } : Room)) (fun a_ U => a_ = #[(.ref a), (.ref q)] ∧ Z.Warmed39 U.vm ∧ U.heap = h0) (fun _ _ _ _ _ => True) (fun _ U o U' => ∃ v L, o = .returned v ∧ Q_i1_31 Z a q G c0 c1 c2 h0 n0 F v U'.heap L ∧ FrameEnd U o U' L ({ frames := 5, cells := 2, slots := 9, locals := 74 } : Room).cells ({ frames := 5, cells := 2, slots := 9, locals := 74 } : Room).slots) := by
  refine MetFree.of_bodySF (plainFor_of_name pn_8) hisR ?_
  intro p e s m args below meth c s₁ Bd hml0 hP hK
  obtain ⟨rfl, hZ, hh⟩ := hP
  have hx := Bd.exec
  have hby := Bd.bytes
  have hlk : meth.locks = false := Bd.notSynchronized
  have hml : c.maxLocals = 2 := hml0
  have hown : s.vm.findClass "java/lang/String" = some m.cls := findClass_of_methodNamed Bd.named
  have hnm := (name_of_methodNamed Bd.named Bd.method).1
  have X0 : Stand p l e ({ frames := 5, cells := 2, slots := 9, locals := 74 } : Room) s m #[(.ref a), (.ref q)] below meth c s₁ [] 0 0 := Stand.of_body Bd
  have e0 : s₁.heap = h0 := by rw [← hh, Bd.state]; rfl
  have N0 := Fr.nil n0
  show OGets p e below (OLeaves s (Q_i1_31 Z a q G c0 c1 c2 h0 n0 F ) ({ frames := 5, cells := 2, slots := 9, locals := 74 } : Room).cells ({ frames := 5, cells := 2, slots := 9, locals := 74 } : Room).slots) _
  refine OGets.enter (ef_i1_31 m a q) ?_
  show OGets p e below _ (s₁.setTop (mkF m 0 #[.val (.ref a), .val (.ref q)] []))
  refine OGets.step (fun _ => XS.aloadN X0.here hx rfl (hb hby dj42m3_0) rfl rfl) ?_
  refine OGets.step (fun _ => XS.aloadN X0.here hx rfl (hb hby dj42m3_1) rfl rfl) ?_
  refine OGets.step (fun _ => XS.iconst X0.here hx rfl (hb hby dj42m3_2)) ?_
  refine OGets.step (fun _ => XS.aloadN X0.here hx rfl (hb hby dj42m3_3) rfl rfl) ?_
  obtain ⟨cl271, Ar271, S271⟩ := V0.arr 1 rfl
  have ln271 : cl271.slots.size.toInt32 = (3 : Int32) := by rw [own_len S271]; rfl
  refine OGets.step (U' := s₁.setTop (mkF m 5 #[.val (.ref a), .val (.ref q)] [(.int (3 : Int32)), (.int (0 : Int32)), (.ref q), (.ref a)])) (fun t kt => ?_) ?_
  · refine X0.arraylength hx (by rw [e0]; exact Ar271.1) (State.isArrayOf_alike hZ.alike Ar271.2.1) (g := (mkF m 4 #[.val (.ref a), .val (.ref q)] [(.ref q), (.int (0 : Int32)), (.ref q), (.ref a)])) rfl rfl (hb hby dj42m3_4) _ ?_
    rw [ln271]; exact kt
  refine OGets.step (fun _ => XS.aconstNull X0.here hx rfl (hb hby dj42m3_5)) ?_
  show OGets p e below _ (s₁.setTop (mkF m 6 #[.val (.ref a), .val (.ref q)] [.null, (.int (3 : Int32)), (.int (0 : Int32)), (.ref q), (.ref a)]))
  obtain ⟨_, _, ⟨T272, L272, k272, n272⟩, -, X272, ⟨Lc272, hQ272, l272, y272, z272⟩, st272⟩ := X0.specialBack hx (y := (⟨"java/lang/String", "<init>", "([CIILjava/lang/Void;)V"⟩ : MethodName)) rfl hown (mvT hZ (hw _ (List.mem_of_getElem? (i := 13) rfl))) (mvT hZ (hw _ (List.mem_of_getElem? (i := 14) rfl))) (mvT hZ (hw _ (List.mem_of_getElem? (i := 16) rfl))) (by decide) (backOf (W := 0) (rm_i4_31 l Z a0 hw [] a q G c0 c1 c2 h0 n0 _ Z0 S0 hG SA SH SL u0 u1 w1 V0 O0) hZ (hw _ (List.mem_of_getElem? (i := 16) rfl)) (hw _ (List.mem_of_getElem? (i := 8) rfl)) (by decide) (by decide)) (g := (mkF m 6 #[.val (.ref a), .val (.ref q)] [.null, (.int (3 : Int32)), (.int (0 : Int32)), (.ref q), (.ref a)])) rfl (by rw [hml]; rfl) (Steps.refl _) (a := a) (argsL := [(.ref q), (.int (0 : Int32)), (.int (3 : Int32)), .null]) (rest := []) (lenOf pd_10 rfl) rfl (by show 2 * 0 + _ ≤ _; exact Nat.le_of_eq rfl) (hb hby dj42m3_6) (fun _ _ => ⟨rfl, e0, Nat.le_of_ble_eq_true rfl, Nat.le_of_ble_eq_true rfl⟩)
  dsimp only [Pt.U, Pt.locs, Pt.cells, Pt.slots] at X272 l272 y272 z272 st272 hQ272
  rw [l272, y272, z272] at X272
  obtain ⟨rfl, N272q, b272, V272, O272q⟩ := hQ272
  have N272 := Fr.app N0 N272q
  have V272v : OView Z n0 T272.heap (((a, Sum.inl ("java/lang/String", ns_String, [(.ref b272), (.int (1 : Int32))])) : Addr × OObj) :: ((b272, Sum.inr (.byte, [(.int (hb' c0)), (.int (lb' c0)), (.int (hb' c1)), (.int (lb' c1)), (.int (hb' c2)), (.int (lb' c2))])) : Addr × OObj) :: ((q, Sum.inr (.char, [(.int c0), (.int c1), (.int c2)])) : Addr × OObj) :: F) := V272
  have Z272 : n0 ≤ T272.heap.size := V272v.big 0 rfl
  refine OGets.after st272 ?_
  refine OGets.retV X272 hx hlk Bd.returns (hb hby dj42m3_9) (Nat.le_of_ble_eq_true rfl) (Nat.le_of_ble_eq_true rfl) ?_
  exact ⟨rfl, N272, b272, V272v, O272q⟩
theorem ef_c5_32 (m : MethodId) (x0 : Addr) (x1 : Int32) (x2 : Addr) (x3 : Int32) (x4 : Int32) : entryFrame m #[(.ref x0), (.int x1), (.ref x2), (.int x3), (.int x4)] 7 = mkF m 0 #[.val (.ref x0), .val (.int x1), .val (.ref x2), .val (.int x3), .val (.int x4), .unset, .unset] [] := by first | (simp [entryFrame, mkF, argsToLocals, Value.category]; done) | rfl
def Q_c5_32 (Z : State) (a : Addr) (b : Addr) (c0 : Int32) (c1 : Int32) (c2 : Int32) (h0 : Heap) (n0 : Nat) (F : List (Addr × OObj)) (v : Option Value) (h : Heap) (L : List Loc) : Prop := v = some (.int (2 : Int32)) ∧ Fr n0 L ∧ OView Z n0 h (((a, Sum.inr (.char, [(.int c0), (.int c1), (.int c2)])) : Addr × OObj) :: ((b, Sum.inr (.byte, [(.int (yb c0)), (.int (yb c1)), (.int (0 : Int32))])) : Addr × OObj) :: F) ∧ Old Z n0 h
set_option maxRecDepth 65536 in
set_option maxHeartbeats 40000000 in
theorem rm_c5_32 (l : Launch) (Z : State) (a0 : Array Value) (hw : ∀ d ∈ tables_1, d.before a0 Z = true) (ws : List Jvm.Cond) (a : Addr) (b : Addr) (c0 : Int32) (c1 : Int32) (c2 : Int32) (h0 : Heap) (n0 : Nat) (F : List (Addr × OObj)) (Z0 : n0 ≤ h0.size) (u0 : ¬ (255 : Int32) < c0) (u1 : ¬ (255 : Int32) < c1) (u2 : (255 : Int32) < c2) (V0 : OView Z n0 h0 (((a, Sum.inr (.char, [(.int c0), (.int c1), (.int c2)])) : Addr × OObj) :: ((b, Sum.inr (.byte, [(.int (0 : Int32)), (.int (0 : Int32)), (.int (0 : Int32))])) : Addr × OObj) :: F)) (O0 : Old Z n0 h0) :
    MetFree l (⟨"java/lang/StringUTF16", "compress", "([CI[BII)I"⟩ : MethodName) (head1 (Jvm.Cond.code (⟨"java/lang/StringUTF16", "compress", "([CI[BII)I"⟩ : MethodName) jdk_52_method_21_code 7 (some .int) :: ws) ({ frames := 0, cells := 0, slots := 0, locals := 0 } : Room)) (fun a_ U => a_ = #[(.ref a), (.int (0 : Int32)), (.ref b), (.int (0 : Int32)), (.int (3 : Int32))] ∧ Z.Warmed39 U.vm ∧ U.heap = h0) (fun _ _ _ _ _ => True) (fun _ U o U' => ∃ v L, o = .returned v ∧ Q_c5_32 Z a b c0 c1 c2 h0 n0 F v U'.heap L ∧ FrameEnd U o U' L ({ frames := 0, cells := 0, slots := 0, locals := 0 } : Room).cells ({ frames := 0, cells := 0, slots := 0, locals := 0 } : Room).slots) := by
  refine MetFree.of_bodySF (plainFor_of_name pn_1) hisR ?_
  intro p e s m args below meth c s₁ Bd hml0 hP hK
  obtain ⟨rfl, hZ, hh⟩ := hP
  have hx := Bd.exec
  have hby := Bd.bytes
  have hlk : meth.locks = false := Bd.notSynchronized
  have hml : c.maxLocals = 7 := hml0
  have hown : s.vm.findClass "java/lang/StringUTF16" = some m.cls := findClass_of_methodNamed Bd.named
  have hnm := (name_of_methodNamed Bd.named Bd.method).1
  have X0 : Stand p l e ({ frames := 0, cells := 0, slots := 0, locals := 0 } : Room) s m #[(.ref a), (.int (0 : Int32)), (.ref b), (.int (0 : Int32)), (.int (3 : Int32))] below meth c s₁ [] 0 0 := Stand.of_body Bd
  have e0 : s₁.heap = h0 := by rw [← hh, Bd.state]; rfl
  have N0 := Fr.nil n0
  show OGets p e below (OLeaves s (Q_c5_32 Z a b c0 c1 c2 h0 n0 F ) ({ frames := 0, cells := 0, slots := 0, locals := 0 } : Room).cells ({ frames := 0, cells := 0, slots := 0, locals := 0 } : Room).slots) _
  refine OGets.enter (ef_c5_32 m a (0 : Int32) b (0 : Int32) (3 : Int32)) ?_
  show OGets p e below _ (s₁.setTop (mkF m 0 #[.val (.ref a), .val (.int (0 : Int32)), .val (.ref b), .val (.int (0 : Int32)), .val (.int (3 : Int32)), .unset, .unset] []))
  refine OGets.step (fun _ => XS.iconst X0.here hx rfl (hb hby dj52m21_0)) ?_
  refine OGets.step (fun _ => XS.istore X0.here hx rfl (hb hby dj52m21_1) rfl (l' := #[.val (.ref a), .val (.int (0 : Int32)), .val (.ref b), .val (.int (0 : Int32)), .val (.int (3 : Int32)), .val (.int (0 : Int32)), .unset]) rfl) ?_
  refine OGets.step (fun _ => XS.iload X0.here hx rfl (hb hby dj52m21_3) rfl) ?_
  refine OGets.step (fun _ => XS.iload X0.here hx rfl (hb hby dj52m21_5) rfl) ?_
  refine OGets.step (fun _ => XS.icmpNo X0.here hx rfl (hb hby dj52m21_7) rfl (tlt (by decide : (0 : Int32) < (3 : Int32))).2.1) ?_
  refine OGets.step (fun _ => XS.aloadN X0.here hx rfl (hb hby dj52m21_10) rfl rfl) ?_
  show OGets p e below _ (s₁.setTop (mkF m 11 #[.val (.ref a), .val (.int (0 : Int32)), .val (.ref b), .val (.int (0 : Int32)), .val (.int (3 : Int32)), .val (.int (0 : Int32)), .unset] [(.ref a)]))
  refine OGets.step (fun _ => XS.iloadN X0.here hx rfl (hb hby dj52m21_11) rfl) ?_
  obtain ⟨cl274, Ar274, S274⟩ := V0.arr 0 rfl
  refine OGets.step (fun _ => X0.caload hx (j := (0 : Int32)) (v := (.int c0)) (by rw [e0]; exact Ar274.1) (State.isArrayOf_alike hZ.alike Ar274.2.1) Ar274.2.2 (own_inb S274 0 (by decide) (Nat.le_of_ble_eq_true rfl)) (own_get S274 0 (by decide) rfl) (g := (mkF m 12 #[.val (.ref a), .val (.int (0 : Int32)), .val (.ref b), .val (.int (0 : Int32)), .val (.int (3 : Int32)), .val (.int (0 : Int32)), .unset] [(.int (0 : Int32)), (.ref a)])) rfl rfl (hb hby dj52m21_12) _) ?_
  refine OGets.step (fun _ => XS.istore X0.here hx rfl (hb hby dj52m21_13) rfl (l' := #[.val (.ref a), .val (.int (0 : Int32)), .val (.ref b), .val (.int (0 : Int32)), .val (.int (3 : Int32)), .val (.int (0 : Int32)), .val (.int c0)]) rfl) ?_
  refine OGets.step (fun _ => XS.iload X0.here hx rfl (hb hby dj52m21_15) rfl) ?_
  refine OGets.step (fun _ => XS.sipush X0.here hx rfl (hb hby dj52m21_17)) ?_
  refine OGets.step (fun _ => XS.icmpYes X0.here hx rfl (pc0 := 20) (pc' := 26) rfl (hb hby dj52m21_20) rfl (flt (u0 : ¬ ((255 : Int32) < c0))).2.2.2 (by decide) (by decide)) ?_
  show OGets p e below _ (s₁.setTop (mkF m 26 #[.val (.ref a), .val (.int (0 : Int32)), .val (.ref b), .val (.int (0 : Int32)), .val (.int (3 : Int32)), .val (.int (0 : Int32)), .val (.int c0)] []))
  refine OGets.step (fun _ => XS.aloadN X0.here hx rfl (hb hby dj52m21_26) rfl rfl) ?_
  refine OGets.step (fun _ => XS.iloadN X0.here hx rfl (hb hby dj52m21_27) rfl) ?_
  refine OGets.step (fun _ => XS.iload X0.here hx rfl (hb hby dj52m21_28) rfl) ?_
  refine OGets.step (fun _ => XS.i2b X0.here hx rfl (hb hby dj52m21_30) rfl) ?_
  obtain ⟨cl276, Ar276, S276⟩ := V0.arr 1 rfl
  obtain ⟨T276, h276, X276, e276, W276', st276⟩ := stB X0 hx hZ e0 Ar276 (j := (0 : Int32)) (own_inb S276 0 (by decide) (Nat.le_of_ble_eq_true rfl)) (g := (mkF m 31 #[.val (.ref a), .val (.int (0 : Int32)), .val (.ref b), .val (.int (0 : Int32)), .val (.int (3 : Int32)), .val (.int (0 : Int32)), .val (.int c0)] [(.int (c0.toInt8.toInt32)), (.int (0 : Int32)), (.ref b)])) rfl rfl (hb hby dj52m21_31)
  have W276 := own_wr (vs := []) 0 (by decide) W276'
  have V276 : OView Z n0 h276 (((a, Sum.inr (.char, [(.int c0), (.int c1), (.int c2)])) : Addr × OObj) :: ((b, Sum.inr (.byte, [(.int (yb c0)), (.int (0 : Int32)), (.int (0 : Int32))])) : Addr × OObj) :: F) := V0.putA 1 rfl W276
  have N276 := Fr.snoc X276 N0 (V0.old 1 rfl)
  have Z276 : n0 ≤ h276.size := by rw [W276.size]; exact Z0
  have O276 := O0.wr W276 (V0.old 1 rfl)
  refine OGets.step st276 ?_
  refine OGets.step (fun _ => XS.iinc X276.here hx rfl (hb hby dj52m21_32) rfl (l' := #[.val (.ref a), .val (.int (1 : Int32)), .val (.ref b), .val (.int (0 : Int32)), .val (.int (3 : Int32)), .val (.int (0 : Int32)), .val (.int c0)]) rfl) ?_
  refine OGets.step (fun _ => XS.iinc X276.here hx rfl (hb hby dj52m21_35) rfl (l' := #[.val (.ref a), .val (.int (1 : Int32)), .val (.ref b), .val (.int (1 : Int32)), .val (.int (3 : Int32)), .val (.int (0 : Int32)), .val (.int c0)]) rfl) ?_
  refine OGets.step (fun _ => XS.iinc X276.here hx rfl (hb hby dj52m21_38) rfl (l' := #[.val (.ref a), .val (.int (1 : Int32)), .val (.ref b), .val (.int (1 : Int32)), .val (.int (3 : Int32)), .val (.int (1 : Int32)), .val (.int c0)]) rfl) ?_
  refine OGets.step (fun _ => XS.goto X276.here hx rfl (pc0 := 41) (pc' := 3) rfl (hb hby dj52m21_41) (by decide) (by decide)) ?_
  refine OGets.step (fun _ => XS.iload X276.here hx rfl (hb hby dj52m21_3) rfl) ?_
  show OGets p e below _ (T276.setTop (mkF m 5 #[.val (.ref a), .val (.int (1 : Int32)), .val (.ref b), .val (.int (1 : Int32)), .val (.int (3 : Int32)), .val (.int (1 : Int32)), .val (.int c0)] [(.int (1 : Int32))]))
  refine OGets.step (fun _ => XS.iload X276.here hx rfl (hb hby dj52m21_5) rfl) ?_
  refine OGets.step (fun _ => XS.icmpNo X276.here hx rfl (hb hby dj52m21_7) rfl (tlt (by decide : (1 : Int32) < (3 : Int32))).2.1) ?_
  refine OGets.step (fun _ => XS.aloadN X276.here hx rfl (hb hby dj52m21_10) rfl rfl) ?_
  refine OGets.step (fun _ => XS.iloadN X276.here hx rfl (hb hby dj52m21_11) rfl) ?_
  obtain ⟨cl278, Ar278, S278⟩ := V276.arr 0 rfl
  refine OGets.step (fun _ => X276.caload hx (j := (1 : Int32)) (v := (.int c1)) (by rw [e276]; exact Ar278.1) (State.isArrayOf_alike hZ.alike Ar278.2.1) Ar278.2.2 (own_inb S278 1 (by decide) (Nat.le_of_ble_eq_true rfl)) (own_get S278 1 (by decide) rfl) (g := (mkF m 12 #[.val (.ref a), .val (.int (1 : Int32)), .val (.ref b), .val (.int (1 : Int32)), .val (.int (3 : Int32)), .val (.int (1 : Int32)), .val (.int c0)] [(.int (1 : Int32)), (.ref a)])) rfl rfl (hb hby dj52m21_12) _) ?_
  refine OGets.step (fun _ => XS.istore X276.here hx rfl (hb hby dj52m21_13) rfl (l' := #[.val (.ref a), .val (.int (1 : Int32)), .val (.ref b), .val (.int (1 : Int32)), .val (.int (3 : Int32)), .val (.int (1 : Int32)), .val (.int c1)]) rfl) ?_
  show OGets p e below _ (T276.setTop (mkF m 15 #[.val (.ref a), .val (.int (1 : Int32)), .val (.ref b), .val (.int (1 : Int32)), .val (.int (3 : Int32)), .val (.int (1 : Int32)), .val (.int c1)] []))
  refine OGets.step (fun _ => XS.iload X276.here hx rfl (hb hby dj52m21_15) rfl) ?_
  refine OGets.step (fun _ => XS.sipush X276.here hx rfl (hb hby dj52m21_17)) ?_
  refine OGets.step (fun _ => XS.icmpYes X276.here hx rfl (pc0 := 20) (pc' := 26) rfl (hb hby dj52m21_20) rfl (flt (u1 : ¬ ((255 : Int32) < c1))).2.2.2 (by decide) (by decide)) ?_
  refine OGets.step (fun _ => XS.aloadN X276.here hx rfl (hb hby dj52m21_26) rfl rfl) ?_
  refine OGets.step (fun _ => XS.iloadN X276.here hx rfl (hb hby dj52m21_27) rfl) ?_
  refine OGets.step (fun _ => XS.iload X276.here hx rfl (hb hby dj52m21_28) rfl) ?_
  show OGets p e below _ (T276.setTop (mkF m 30 #[.val (.ref a), .val (.int (1 : Int32)), .val (.ref b), .val (.int (1 : Int32)), .val (.int (3 : Int32)), .val (.int (1 : Int32)), .val (.int c1)] [(.int c1), (.int (1 : Int32)), (.ref b)]))
  refine OGets.step (fun _ => XS.i2b X276.here hx rfl (hb hby dj52m21_30) rfl) ?_
  obtain ⟨cl280, Ar280, S280⟩ := V276.arr 1 rfl
  obtain ⟨T280, h280, X280, e280, W280', st280⟩ := stB X276 hx hZ e276 Ar280 (j := (1 : Int32)) (own_inb S280 1 (by decide) (Nat.le_of_ble_eq_true rfl)) (g := (mkF m 31 #[.val (.ref a), .val (.int (1 : Int32)), .val (.ref b), .val (.int (1 : Int32)), .val (.int (3 : Int32)), .val (.int (1 : Int32)), .val (.int c1)] [(.int (c1.toInt8.toInt32)), (.int (1 : Int32)), (.ref b)])) rfl rfl (hb hby dj52m21_31)
  have W280 := own_wr (vs := []) 1 (by decide) W280'
  have V280 : OView Z n0 h280 (((a, Sum.inr (.char, [(.int c0), (.int c1), (.int c2)])) : Addr × OObj) :: ((b, Sum.inr (.byte, [(.int (yb c0)), (.int (yb c1)), (.int (0 : Int32))])) : Addr × OObj) :: F) := V276.putA 1 rfl W280
  have N280 := Fr.snoc X280 N276 (V276.old 1 rfl)
  have Z280 : n0 ≤ h280.size := by rw [W280.size]; exact Z276
  have O280 := O276.wr W280 (V276.old 1 rfl)
  refine OGets.step st280 ?_
  refine OGets.step (fun _ => XS.iinc X280.here hx rfl (hb hby dj52m21_32) rfl (l' := #[.val (.ref a), .val (.int (2 : Int32)), .val (.ref b), .val (.int (1 : Int32)), .val (.int (3 : Int32)), .val (.int (1 : Int32)), .val (.int c1)]) rfl) ?_
  refine OGets.step (fun _ => XS.iinc X280.here hx rfl (hb hby dj52m21_35) rfl (l' := #[.val (.ref a), .val (.int (2 : Int32)), .val (.ref b), .val (.int (2 : Int32)), .val (.int (3 : Int32)), .val (.int (1 : Int32)), .val (.int c1)]) rfl) ?_
  refine OGets.step (fun _ => XS.iinc X280.here hx rfl (hb hby dj52m21_38) rfl (l' := #[.val (.ref a), .val (.int (2 : Int32)), .val (.ref b), .val (.int (2 : Int32)), .val (.int (3 : Int32)), .val (.int (2 : Int32)), .val (.int c1)]) rfl) ?_
  refine OGets.step (fun _ => XS.goto X280.here hx rfl (pc0 := 41) (pc' := 3) rfl (hb hby dj52m21_41) (by decide) (by decide)) ?_
  refine OGets.step (fun _ => XS.iload X280.here hx rfl (hb hby dj52m21_3) rfl) ?_
  show OGets p e below _ (T280.setTop (mkF m 5 #[.val (.ref a), .val (.int (2 : Int32)), .val (.ref b), .val (.int (2 : Int32)), .val (.int (3 : Int32)), .val (.int (2 : Int32)), .val (.int c1)] [(.int (2 : Int32))]))
  refine OGets.step (fun _ => XS.iload X280.here hx rfl (hb hby dj52m21_5) rfl) ?_
  refine OGets.step (fun _ => XS.icmpNo X280.here hx rfl (hb hby dj52m21_7) rfl (tlt (by decide : (2 : Int32) < (3 : Int32))).2.1) ?_
  refine OGets.step (fun _ => XS.aloadN X280.here hx rfl (hb hby dj52m21_10) rfl rfl) ?_
  refine OGets.step (fun _ => XS.iloadN X280.here hx rfl (hb hby dj52m21_11) rfl) ?_
  obtain ⟨cl282, Ar282, S282⟩ := V280.arr 0 rfl
  refine OGets.step (fun _ => X280.caload hx (j := (2 : Int32)) (v := (.int c2)) (by rw [e280]; exact Ar282.1) (State.isArrayOf_alike hZ.alike Ar282.2.1) Ar282.2.2 (own_inb S282 2 (by decide) (Nat.le_of_ble_eq_true rfl)) (own_get S282 2 (by decide) rfl) (g := (mkF m 12 #[.val (.ref a), .val (.int (2 : Int32)), .val (.ref b), .val (.int (2 : Int32)), .val (.int (3 : Int32)), .val (.int (2 : Int32)), .val (.int c1)] [(.int (2 : Int32)), (.ref a)])) rfl rfl (hb hby dj52m21_12) _) ?_
  refine OGets.step (fun _ => XS.istore X280.here hx rfl (hb hby dj52m21_13) rfl (l' := #[.val (.ref a), .val (.int (2 : Int32)), .val (.ref b), .val (.int (2 : Int32)), .val (.int (3 : Int32)), .val (.int (2 : Int32)), .val (.int c2)]) rfl) ?_
  show OGets p e below _ (T280.setTop (mkF m 15 #[.val (.ref a), .val (.int (2 : Int32)), .val (.ref b), .val (.int (2 : Int32)), .val (.int (3 : Int32)), .val (.int (2 : Int32)), .val (.int c2)] []))
  refine OGets.step (fun _ => XS.iload X280.here hx rfl (hb hby dj52m21_15) rfl) ?_
  refine OGets.step (fun _ => XS.sipush X280.here hx rfl (hb hby dj52m21_17)) ?_
  refine OGets.step (fun _ => XS.icmpNo X280.here hx rfl (hb hby dj52m21_20) rfl (tlt (u2 : (255 : Int32) < c2)).2.2.2) ?_
  refine OGets.step (fun _ => XS.iload X280.here hx rfl (hb hby dj52m21_23) rfl) ?_
  refine OGets.retI X280 hx hlk Bd.returns (hb hby dj52m21_25) (Nat.le_of_ble_eq_true rfl) (Nat.le_of_ble_eq_true rfl) ?_
  rw [e280]
  exact ⟨rfl, N280, V280, O280⟩
theorem ef_c3_32 (m : MethodId) (x0 : Addr) (x1 : Int32) (x2 : Int32) : entryFrame m #[(.ref x0), (.int x1), (.int x2)] 6 = mkF m 0 #[.val (.ref x0), .val (.int x1), .val (.int x2), .unset, .unset, .unset] [] := by first | (simp [entryFrame, mkF, argsToLocals, Value.category]; done) | rfl
def Q_c3_32 (Z : State) (a : Addr) (c0 : Int32) (c1 : Int32) (c2 : Int32) (h0 : Heap) (n0 : Nat) (F : List (Addr × OObj)) (v : Option Value) (h : Heap) (L : List Loc) : Prop := ∃ b : Addr, v = some (.ref b) ∧ Fr n0 L ∧ OView Z n0 h (((b, Sum.inr (.byte, [(.int (hb' c0)), (.int (lb' c0)), (.int (hb' c1)), (.int (lb' c1)), (.int (hb' c2)), (.int (lb' c2))])) : Addr × OObj) :: ((a, Sum.inr (.char, [(.int c0), (.int c1), (.int c2)])) : Addr × OObj) :: F) ∧ Old Z n0 h
set_option maxRecDepth 65536 in
set_option maxHeartbeats 40000000 in
theorem rm_c3_32 (l : Launch) (Z : State) (a0 : Array Value) (hw : ∀ d ∈ tables_1, d.before a0 Z = true) (ws : List Jvm.Cond) (a : Addr) (c0 : Int32) (c1 : Int32) (c2 : Int32) (h0 : Heap) (n0 : Nat) (F : List (Addr × OObj)) (Z0 : n0 ≤ h0.size) (SA : Sta Z Z.heap "java/lang/StringUTF16" "$assertionsDisabled" "Z" (.int (1 : Int32))) (SH : Sta Z Z.heap "java/lang/StringUTF16" "HI_BYTE_SHIFT" "I" (.int (0 : Int32))) (SL : Sta Z Z.heap "java/lang/StringUTF16" "LO_BYTE_SHIFT" "I" (.int (8 : Int32))) (u0 : ¬ (255 : Int32) < c0) (u1 : ¬ (255 : Int32) < c1) (u2 : (255 : Int32) < c2) (w2 : Ch c2) (V0 : OView Z n0 h0 (((a, Sum.inr (.char, [(.int c0), (.int c1), (.int c2)])) : Addr × OObj) :: F)) (O0 : Old Z n0 h0) :
    MetFree l (⟨"java/lang/StringUTF16", "compress", "([CII)[B"⟩ : MethodName) (head1 (Jvm.Cond.code (⟨"java/lang/StringUTF16", "compress", "([CII)[B"⟩ : MethodName) jdk_52_method_16_code 6 (some (.array .byte)) :: ws) ({ frames := 3, cells := 2, slots := 9, locals := 40 } : Room)) (fun a_ U => a_ = #[(.ref a), (.int (0 : Int32)), (.int (3 : Int32))] ∧ Z.Warmed39 U.vm ∧ U.heap = h0) (fun _ _ _ _ _ => True) (fun _ U o U' => ∃ v L, o = .returned v ∧ Q_c3_32 Z a c0 c1 c2 h0 n0 F v U'.heap L ∧ FrameEnd U o U' L ({ frames := 3, cells := 2, slots := 9, locals := 40 } : Room).cells ({ frames := 3, cells := 2, slots := 9, locals := 40 } : Room).slots) := by
  refine MetFree.of_bodySF (plainFor_of_name pn_1) hisR ?_
  intro p e s m args below meth c s₁ Bd hml0 hP hK
  obtain ⟨rfl, hZ, hh⟩ := hP
  have hx := Bd.exec
  have hby := Bd.bytes
  have hlk : meth.locks = false := Bd.notSynchronized
  have hml : c.maxLocals = 6 := hml0
  have hown : s.vm.findClass "java/lang/StringUTF16" = some m.cls := findClass_of_methodNamed Bd.named
  have hnm := (name_of_methodNamed Bd.named Bd.method).1
  have X0 : Stand p l e ({ frames := 3, cells := 2, slots := 9, locals := 40 } : Room) s m #[(.ref a), (.int (0 : Int32)), (.int (3 : Int32))] below meth c s₁ [] 0 0 := Stand.of_body Bd
  have e0 : s₁.heap = h0 := by rw [← hh, Bd.state]; rfl
  have N0 := Fr.nil n0
  show OGets p e below (OLeaves s (Q_c3_32 Z a c0 c1 c2 h0 n0 F ) ({ frames := 3, cells := 2, slots := 9, locals := 40 } : Room).cells ({ frames := 3, cells := 2, slots := 9, locals := 40 } : Room).slots) _
  refine OGets.enter (ef_c3_32 m a (0 : Int32) (3 : Int32)) ?_
  show OGets p e below _ (s₁.setTop (mkF m 0 #[.val (.ref a), .val (.int (0 : Int32)), .val (.int (3 : Int32)), .unset, .unset, .unset] []))
  refine OGets.step (fun _ => XS.iloadN X0.here hx rfl (hb hby dj52m16_0) rfl) ?_
  obtain ⟨T284, h284, k284, X284, e284, E284, A284, st284⟩ := newP X0 hx hZ (hw _ (List.mem_of_getElem? (i := 21) rfl)) e0 (g := (mkF m 1 #[.val (.ref a), .val (.int (0 : Int32)), .val (.int (3 : Int32)), .unset, .unset, .unset] [(.int (3 : Int32))])) rfl (hb hby dj52m16_1) rfl (by decide) (cap := 3) (by decide) (by decide) (by decide) (by decide)
  have V284' := V0.newArr Z0 E284 A284 3 rfl
  have Z284 : n0 ≤ h284.size := Nat.le_trans Z0 E284.1
  obtain ⟨b284, g284⟩ : ∃ z, z = h0.size := ⟨_, rfl⟩
  rw [← g284] at V284' st284
  have V284 : OView Z n0 h284 (((b284, Sum.inr (.byte, [(.int (0 : Int32)), (.int (0 : Int32)), (.int (0 : Int32))])) : Addr × OObj) :: ((a, Sum.inr (.char, [(.int c0), (.int c1), (.int c2)])) : Addr × OObj) :: F) := V284'
  have O284 := O0.ext E284
  refine OGets.step st284 ?_
  refine OGets.step (fun _ => XS.astoreN X284.here hx rfl (hb hby dj52m16_3) rfl rfl (l' := #[.val (.ref a), .val (.int (0 : Int32)), .val (.int (3 : Int32)), .val (.ref b284), .unset, .unset]) rfl) ?_
  refine OGets.step (fun _ => XS.aloadN X284.here hx rfl (hb hby dj52m16_4) rfl rfl) ?_
  refine OGets.step (fun _ => XS.iloadN X284.here hx rfl (hb hby dj52m16_5) rfl) ?_
  refine OGets.step (fun _ => XS.aloadN X284.here hx rfl (hb hby dj52m16_6) rfl rfl) ?_
  refine OGets.step (fun _ => XS.iconst X284.here hx rfl (hb hby dj52m16_7)) ?_
  show OGets p e below _ (T284.setTop (mkF m 8 #[.val (.ref a), .val (.int (0 : Int32)), .val (.int (3 : Int32)), .val (.ref b284), .unset, .unset] [(.int (0 : Int32)), (.ref b284), (.int (0 : Int32)), (.ref a)]))
  refine OGets.step (fun _ => XS.iloadN X284.here hx rfl (hb hby dj52m16_8) rfl) ?_
  have V285_ : OView Z _ h284 (((a, Sum.inr (.char, [(.int c0), (.int c1), (.int c2)])) : Addr × OObj) :: ((b284, Sum.inr (.byte, [(.int (0 : Int32)), (.int (0 : Int32)), (.int (0 : Int32))])) : Addr × OObj) :: F) := (V284.bring 1 rfl)
  obtain ⟨_, _, ⟨T285, L285, k285, n285⟩, -, X285, ⟨Lc285, hQ285, l285, y285, z285⟩, st285⟩ := Jvm.LawKit.callS X284 hx (y := (⟨"java/lang/StringUTF16", "compress", "([CI[BII)I"⟩ : MethodName)) hown (mvT hZ (hw _ (List.mem_of_getElem? (i := 49) rfl))) (mvT hZ (hw _ (List.mem_of_getElem? (i := 50) rfl))) (mvT hZ (hw _ (List.mem_of_getElem? (i := 47) rfl))) (mvT hZ (hw _ (List.mem_of_getElem? (i := 51) rfl))) (by decide) (backOf (W := 0) (rm_c5_32 l Z a0 hw [] a b284 c0 c1 c2 h284 n0 _ Z284 u0 u1 u2 V285_ O284) hZ (hw _ (List.mem_of_getElem? (i := 51) rfl)) (hw _ (List.mem_of_getElem? (i := 47) rfl)) (by decide) (by decide)) (g := (mkF m 9 #[.val (.ref a), .val (.int (0 : Int32)), .val (.int (3 : Int32)), .val (.ref b284), .unset, .unset] [(.int (3 : Int32)), (.int (0 : Int32)), (.ref b284), (.int (0 : Int32)), (.ref a)])) rfl (by rw [hml]; rfl) (argsL := [(.ref a), (.int (0 : Int32)), (.ref b284), (.int (0 : Int32)), (.int (3 : Int32))]) (rest := []) (lenOf pd_5 rfl) rfl (by show 2 * 0 + _ ≤ _; exact Nat.le_of_eq rfl) (hb hby dj52m16_9) (fun _ _ => ⟨rfl, e284, Nat.le_of_ble_eq_true rfl, Nat.le_of_ble_eq_true rfl⟩)
  dsimp only [Pt.U, Pt.locs, Pt.cells, Pt.slots] at X285 l285 y285 z285 st285 hQ285
  rw [l285, y285, z285] at X285
  obtain ⟨rfl, N285q, V285, O285q⟩ := hQ285
  have N285 := Fr.app N0 N285q
  have V285v : OView Z n0 T285.heap (((a, Sum.inr (.char, [(.int c0), (.int c1), (.int c2)])) : Addr × OObj) :: ((b284, Sum.inr (.byte, [(.int (yb c0)), (.int (yb c1)), (.int (0 : Int32))])) : Addr × OObj) :: F) := V285
  have Z285 : n0 ≤ T285.heap.size := V285v.big 0 rfl
  refine OGets.step st285 ?_
  refine OGets.step (fun _ => XS.istore X285.here hx rfl (hb hby dj52m16_12) rfl (l' := #[.val (.ref a), .val (.int (0 : Int32)), .val (.int (3 : Int32)), .val (.ref b284), .val (.int (2 : Int32)), .unset]) rfl) ?_
  refine OGets.step (fun _ => XS.iload X285.here hx rfl (hb hby dj52m16_14) rfl) ?_
  refine OGets.step (fun _ => XS.iloadN X285.here hx rfl (hb hby dj52m16_16) rfl) ?_
  refine OGets.step (fun _ => XS.icmpNo X285.here hx rfl (hb hby dj52m16_17) rfl (feq (by decide : ¬ ((2 : Int32) = (3 : Int32)))).1) ?_
  refine OGets.step (fun _ => XS.aloadN X285.here hx rfl (hb hby dj52m16_20) rfl rfl) ?_
  show OGets p e below _ (T285.setTop (mkF m 21 #[.val (.ref a), .val (.int (0 : Int32)), .val (.int (3 : Int32)), .val (.ref b284), .val (.int (2 : Int32)), .unset] [(.ref a)]))
  refine OGets.step (fun _ => XS.iloadN X285.here hx rfl (hb hby dj52m16_21) rfl) ?_
  refine OGets.step (fun _ => XS.iloadN X285.here hx rfl (hb hby dj52m16_22) rfl) ?_
  obtain ⟨_, _, ⟨T287, L287, k287, n287⟩, -, X287, ⟨Lc287, hQ287, l287, y287, z287⟩, st287⟩ := Jvm.LawKit.callS X285 hx (y := (⟨"java/lang/StringUTF16", "toBytes", "([CII)[B"⟩ : MethodName)) hown (mvT hZ (hw _ (List.mem_of_getElem? (i := 55) rfl))) (mvT hZ (hw _ (List.mem_of_getElem? (i := 56) rfl))) (mvT hZ (hw _ (List.mem_of_getElem? (i := 47) rfl))) (mvT hZ (hw _ (List.mem_of_getElem? (i := 57) rfl))) (by decide) (backOf (W := 0) (rm_tob3 l Z a0 hw [] a c0 c1 c2 T285.heap n0 _ Z285 SA SH SL V285v O285q) hZ (hw _ (List.mem_of_getElem? (i := 57) rfl)) (hw _ (List.mem_of_getElem? (i := 47) rfl)) (by decide) (by decide)) (g := (mkF m 23 #[.val (.ref a), .val (.int (0 : Int32)), .val (.int (3 : Int32)), .val (.ref b284), .val (.int (2 : Int32)), .unset] [(.int (3 : Int32)), (.int (0 : Int32)), (.ref a)])) rfl (by rw [hml]; rfl) (argsL := [(.ref a), (.int (0 : Int32)), (.int (3 : Int32))]) (rest := []) (lenOf pd_6 rfl) rfl (by show 2 * 0 + _ ≤ _; exact Nat.le_of_eq rfl) (hb hby dj52m16_23) (fun _ _ => ⟨rfl, rfl, Nat.le_of_ble_eq_true rfl, Nat.le_of_ble_eq_true rfl⟩)
  dsimp only [Pt.U, Pt.locs, Pt.cells, Pt.slots] at X287 l287 y287 z287 st287 hQ287
  rw [l287, y287, z287] at X287
  obtain ⟨b287, rfl, N287q, V287, O287q⟩ := hQ287
  have N287 := Fr.app N285 N287q
  have V287v : OView Z n0 T287.heap (((b287, Sum.inr (.byte, [(.int (hb' c0)), (.int (lb' c0)), (.int (hb' c1)), (.int (lb' c1)), (.int (hb' c2)), (.int (lb' c2))])) : Addr × OObj) :: ((a, Sum.inr (.char, [(.int c0), (.int c1), (.int c2)])) : Addr × OObj) :: ((b284, Sum.inr (.byte, [(.int (yb c0)), (.int (yb c1)), (.int (0 : Int32))])) : Addr × OObj) :: F) := V287
  have Z287 : n0 ≤ T287.heap.size := V287v.big 0 rfl
  refine OGets.step st287 ?_
  refine OGets.step (fun _ => XS.astore X287.here hx rfl (hb hby dj52m16_26) rfl rfl (l' := #[.val (.ref a), .val (.int (0 : Int32)), .val (.int (3 : Int32)), .val (.ref b284), .val (.int (2 : Int32)), .val (.ref b287)]) rfl) ?_
  refine OGets.step (fun _ => XS.aload X287.here hx rfl (hb hby dj52m16_28) rfl rfl) ?_
  refine OGets.step (fun _ => XS.iload X287.here hx rfl (hb hby dj52m16_30) rfl) ?_
  obtain ⟨_, _, ⟨T288, L288, k288, n288⟩, -, X288, ⟨Lc288, hQ288, l288, y288, z288⟩, st288⟩ := Jvm.LawKit.callS X287 hx (y := (⟨"java/lang/StringUTF16", "getChar", "([BI)C"⟩ : MethodName)) hown (mvT hZ (hw _ (List.mem_of_getElem? (i := 71) rfl))) (mvT hZ (hw _ (List.mem_of_getElem? (i := 72) rfl))) (mvT hZ (hw _ (List.mem_of_getElem? (i := 47) rfl))) (mvT hZ (hw _ (List.mem_of_getElem? (i := 73) rfl))) (by decide) (backOf (W := 0) (rm_gch32 l Z a0 hw [] b287 (hb' c0) (lb' c0) (hb' c1) (lb' c1) (hb' c2) (lb' c2) T287.heap n0 _ Z287 SA SH SL V287v O287q) hZ (hw _ (List.mem_of_getElem? (i := 73) rfl)) (hw _ (List.mem_of_getElem? (i := 47) rfl)) (by decide) (by decide)) (g := (mkF m 32 #[.val (.ref a), .val (.int (0 : Int32)), .val (.int (3 : Int32)), .val (.ref b284), .val (.int (2 : Int32)), .val (.ref b287)] [(.int (2 : Int32)), (.ref b287)])) rfl (by rw [hml]; rfl) (argsL := [(.ref b287), (.int (2 : Int32))]) (rest := []) (lenOf pd_7 rfl) rfl (by show 2 * 0 + _ ≤ _; exact Nat.le_of_eq rfl) (hb hby dj52m16_32) (fun _ _ => ⟨rfl, rfl, Nat.le_of_ble_eq_true rfl, Nat.le_of_ble_eq_true rfl⟩)
  dsimp only [Pt.U, Pt.locs, Pt.cells, Pt.slots] at X288 l288 y288 z288 st288 hQ288
  rw [l288, y288, z288] at X288
  obtain ⟨rfl, rfl, e288⟩ := hQ288
  have N288 := Fr.app N287 (Fr.nil n0)
  refine OGets.step st288 ?_
  refine OGets.step (fun _ => XS.sipush X288.here hx rfl (hb hby dj52m16_35)) ?_
  refine OGets.step (fun _ => XS.icmpYes X288.here hx rfl (pc0 := 38) (pc' := 54) rfl (hb hby dj52m16_38) rfl (tlt (own_gc w2 u2 : (255 : Int32) < (gcv (hb' c2) (lb' c2)))).2.2.1 (by decide) (by decide)) ?_
  refine OGets.step (fun _ => XS.aload X288.here hx rfl (hb hby dj52m16_54) rfl rfl) ?_
  refine OGets.retA X288 hx hlk (t := (.array .byte)) Bd.returns rfl rfl rfl (hb hby dj52m16_56) (Nat.le_of_ble_eq_true rfl) (Nat.le_of_ble_eq_true rfl) ?_
  have Vd290 : OView Z _ T287.heap (((b287, Sum.inr (.byte, [(.int (hb' c0)), (.int (lb' c0)), (.int (hb' c1)), (.int (lb' c1)), (.int (hb' c2)), (.int (lb' c2))])) : Addr × OObj) :: ((a, Sum.inr (.char, [(.int c0), (.int c1), (.int c2)])) : Addr × OObj) :: F) := (V287v.bring 2 rfl).tail
  rw [e288]
  exact ⟨b287, rfl, N288, Vd290, O287q⟩
theorem ef_i4_32 (m : MethodId) (x0 : Addr) (x1 : Addr) (x2 : Int32) (x3 : Int32) : entryFrame m #[(.ref x0), (.ref x1), (.int x2), (.int x3), .null] 6 = mkF m 0 #[.val (.ref x0), .val (.ref x1), .val (.int x2), .val (.int x3), .val .null, .unset] [] := by first | (simp [entryFrame, mkF, argsToLocals, Value.category]; done) | rfl
def Q_i4_32 (Z : State) (a : Addr) (q : Addr) (G : Int32) (c0 : Int32) (c1 : Int32) (c2 : Int32) (h0 : Heap) (n0 : Nat) (F : List (Addr × OObj)) (v : Option Value) (h : Heap) (L : List Loc) : Prop := v = none ∧ Fr n0 L ∧ ∃ b : Addr, OView Z n0 h (((a, Sum.inl ("java/lang/String", ns_String, [(.ref b), (.int (1 : Int32))])) : Addr × OObj) :: ((b, Sum.inr (.byte, [(.int (hb' c0)), (.int (lb' c0)), (.int (hb' c1)), (.int (lb' c1)), (.int (hb' c2)), (.int (lb' c2))])) : Addr × OObj) :: ((q, Sum.inr (.char, [(.int c0), (.int c1), (.int c2)])) : Addr × OObj) :: F) ∧ Old Z n0 h
set_option maxRecDepth 65536 in
set_option maxHeartbeats 40000000 in
theorem rm_i4_32 (l : Launch) (Z : State) (a0 : Array Value) (hw : ∀ d ∈ tables_1, d.before a0 Z = true) (ws : List Jvm.Cond) (a : Addr) (q : Addr) (G : Int32) (c0 : Int32) (c1 : Int32) (c2 : Int32) (h0 : Heap) (n0 : Nat) (F : List (Addr × OObj)) (Z0 : n0 ≤ h0.size) (S0 : Sta Z Z.heap "java/lang/String" "COMPACT_STRINGS" "Z" (.int G)) (hG : ¬ G = (0 : Int32)) (SA : Sta Z Z.heap "java/lang/StringUTF16" "$assertionsDisabled" "Z" (.int (1 : Int32))) (SH : Sta Z Z.heap "java/lang/StringUTF16" "HI_BYTE_SHIFT" "I" (.int (0 : Int32))) (SL : Sta Z Z.heap "java/lang/StringUTF16" "LO_BYTE_SHIFT" "I" (.int (8 : Int32))) (u0 : ¬ (255 : Int32) < c0) (u1 : ¬ (255 : Int32) < c1) (u2 : (255 : Int32) < c2) (w2 : Ch c2) (V0 : OView Z n0 h0 (((a, Sum.inl ("java/lang/String", ns_String, [.null, (.int (0 : Int32))])) : Addr × OObj) :: ((q, Sum.inr (.char, [(.int c0), (.int c1), (.int c2)])) : Addr × OObj) :: F)) (O0 : Old Z n0 h0) :
    MetFree l (⟨"java/lang/String", "<init>", "([CIILjava/lang/Void;)V"⟩ : MethodName) (head1 (Jvm.Cond.code (⟨"java/lang/String", "<init>", "([CIILjava/lang/Void;)V"⟩ : MethodName) jdk_42_method_149_code 6 none :: ws) ({ frames := 4, cells := 2, slots := 9, locals := 57 } : Room)) (fun a_ U => a_ = #[(.ref a), (.ref q), (.int (0 : Int32)), (.int (3 : Int32)), .null] ∧ Z.Warmed39 U.vm ∧ U.heap = h0) (fun _ _ _ _ _ => True) (fun _ U o U' => ∃ v L, o = .returned v ∧ Q_i4_32 Z a q G c0 c1 c2 h0 n0 F v U'.heap L ∧ FrameEnd U o U' L ({ frames := 4, cells := 2, slots := 9, locals := 57 } : Room).cells ({ frames := 4, cells := 2, slots := 9, locals := 57 } : Room).slots) := by
  refine MetFree.of_bodySF (plainFor_of_name pn_8) hisR ?_
  intro p e s m args below meth c s₁ Bd hml0 hP hK
  obtain ⟨rfl, hZ, hh⟩ := hP
  have hx := Bd.exec
  have hby := Bd.bytes
  have hlk : meth.locks = false := Bd.notSynchronized
  have hml : c.maxLocals = 6 := hml0
  have hown : s.vm.findClass "java/lang/String" = some m.cls := findClass_of_methodNamed Bd.named
  have hnm := (name_of_methodNamed Bd.named Bd.method).1
  have X0 : Stand p l e ({ frames := 4, cells := 2, slots := 9, locals := 57 } : Room) s m #[(.ref a), (.ref q), (.int (0 : Int32)), (.int (3 : Int32)), .null] below meth c s₁ [] 0 0 := Stand.of_body Bd
  have e0 : s₁.heap = h0 := by rw [← hh, Bd.state]; rfl
  have N0 := Fr.nil n0
  show OGets p e below (OLeaves s (Q_i4_32 Z a q G c0 c1 c2 h0 n0 F ) ({ frames := 4, cells := 2, slots := 9, locals := 57 } : Room).cells ({ frames := 4, cells := 2, slots := 9, locals := 57 } : Room).slots) _
  refine OGets.enter (ef_i4_32 m a q (0 : Int32) (3 : Int32)) ?_
  show OGets p e below _ (s₁.setTop (mkF m 0 #[.val (.ref a), .val (.ref q), .val (.int (0 : Int32)), .val (.int (3 : Int32)), .val .null, .unset] []))
  refine OGets.step (fun _ => XS.aloadN X0.here hx rfl (hb hby dj42m149_0) rfl rfl) ?_
  obtain ⟨T291, X291, e291, st291⟩ := initO X0 hx hZ hown (hw _ (List.mem_of_getElem? (i := 17) rfl)) (hw _ (List.mem_of_getElem? (i := 18) rfl)) (hw _ (List.mem_of_getElem? (i := 19) rfl)) e0 (g := (mkF m 1 #[.val (.ref a), .val (.ref q), .val (.int (0 : Int32)), .val (.int (3 : Int32)), .val .null, .unset] [(.ref a)])) rfl (by rw [hml]; rfl) rfl (hb hby dj42m149_1) (by decide) (W := 0) (by show 2 * 0 + _ ≤ _; exact Nat.le_of_eq rfl) (by decide)
  refine OGets.step st291 ?_
  refine OGets.step (fun _ => XS.iloadN X291.here hx rfl (hb hby dj42m149_4) rfl) ?_
  refine OGets.step (fun _ => XS.ifYes X291.here hx rfl (pc0 := 5) (pc' := 27) rfl (hb hby dj42m149_5) rfl ((if0 _ _).trans (feq (by decide : ¬ ((3 : Int32) = (0 : Int32)))).2) (by decide) (by decide)) ?_
  obtain ⟨T293, X293, e293, st293⟩ := getS2 X291 hx hZ hown (host := "") (Or.inl (hw _ (List.mem_of_getElem? (i := 39) rfl))) Via.refl e291 (S0.ext O0.2) (g := (mkF m 27 #[.val (.ref a), .val (.ref q), .val (.int (0 : Int32)), .val (.int (3 : Int32)), .val .null, .unset] [])) rfl (hb hby dj42m149_27)
  refine OGets.step st293 ?_
  refine OGets.step (fun _ => XS.ifNo X293.here hx rfl (hb hby dj42m149_30) rfl ((if0 _ _).trans (feq (hG : ¬ (G = (0 : Int32)))).1)) ?_
  refine OGets.step (fun _ => XS.aloadN X293.here hx rfl (hb hby dj42m149_33) rfl rfl) ?_
  refine OGets.step (fun _ => XS.iloadN X293.here hx rfl (hb hby dj42m149_34) rfl) ?_
  refine OGets.step (fun _ => XS.iloadN X293.here hx rfl (hb hby dj42m149_35) rfl) ?_
  have V295_ : OView Z _ h0 (((q, Sum.inr (.char, [(.int c0), (.int c1), (.int c2)])) : Addr × OObj) :: ((a, Sum.inl ("java/lang/String", ns_String, [.null, (.int (0 : Int32))])) : Addr × OObj) :: F) := (V0.bring 1 rfl)
  obtain ⟨_, _, ⟨T295, L295, k295, n295⟩, -, X295, ⟨Lc295, hQ295, l295, y295, z295⟩, st295⟩ := Jvm.LawKit.callS X293 hx (y := (⟨"java/lang/StringUTF16", "compress", "([CII)[B"⟩ : MethodName)) hown (mvT hZ (hw _ (List.mem_of_getElem? (i := 45) rfl))) (mvT hZ (hw _ (List.mem_of_getElem? (i := 46) rfl))) (mvT hZ (hw _ (List.mem_of_getElem? (i := 47) rfl))) (mvT hZ (hw _ (List.mem_of_getElem? (i := 48) rfl))) (by decide) (backOf (W := 0) (rm_c3_32 l Z a0 hw [] q c0 c1 c2 h0 n0 _ Z0 SA SH SL u0 u1 u2 w2 V295_ O0) hZ (hw _ (List.mem_of_getElem? (i := 48) rfl)) (hw _ (List.mem_of_getElem? (i := 47) rfl)) (by decide) (by decide)) (g := (mkF m 36 #[.val (.ref a), .val (.ref q), .val (.int (0 : Int32)), .val (.int (3 : Int32)), .val .null, .unset] [(.int (3 : Int32)), (.int (0 : Int32)), (.ref q)])) rfl (by rw [hml]; rfl) (argsL := [(.ref q), (.int (0 : Int32)), (.int (3 : Int32))]) (rest := []) (lenOf pd_6 rfl) rfl (by show 2 * 0 + _ ≤ _; exact Nat.le_of_eq rfl) (hb hby dj42m149_36) (fun _ _ => ⟨rfl, e293, Nat.le_of_ble_eq_true rfl, Nat.le_of_ble_eq_true rfl⟩)
  dsimp only [Pt.U, Pt.locs, Pt.cells, Pt.slots] at X295 l295 y295 z295 st295 hQ295
  rw [l295, y295, z295] at X295
  obtain ⟨b295, rfl, N295q, V295, O295q⟩ := hQ295
  have N295 := Fr.app N0 N295q
  have V295v : OView Z n0 T295.heap (((b295, Sum.inr (.byte, [(.int (hb' c0)), (.int (lb' c0)), (.int (hb' c1)), (.int (lb' c1)), (.int (hb' c2)), (.int (lb' c2))])) : Addr × OObj) :: ((q, Sum.inr (.char, [(.int c0), (.int c1), (.int c2)])) : Addr × OObj) :: ((a, Sum.inl ("java/lang/String", ns_String, [.null, (.int (0 : Int32))])) : Addr × OObj) :: F) := V295
  have Z295 : n0 ≤ T295.heap.size := V295v.big 0 rfl
  refine OGets.step st295 ?_
  refine OGets.step (fun _ => XS.astore X295.here hx rfl (hb hby dj42m149_39) rfl rfl (l' := #[.val (.ref a), .val (.ref q), .val (.int (0 : Int32)), .val (.int (3 : Int32)), .val .null, .val (.ref b295)]) rfl) ?_
  refine OGets.step (fun _ => XS.aloadN X295.here hx rfl (hb hby dj42m149_41) rfl rfl) ?_
  refine OGets.step (fun _ => XS.aload X295.here hx rfl (hb hby dj42m149_42) rfl rfl) ?_
  refine OGets.step (fun _ => XS.iloadN X295.here hx rfl (hb hby dj42m149_44) rfl) ?_
  obtain ⟨_, _, ⟨T296, L296, k296, n296⟩, -, X296, ⟨Lc296, hQ296, l296, y296, z296⟩, st296⟩ := Jvm.LawKit.callS X295 hx (y := (⟨"java/lang/StringUTF16", "coderFromArrayLen", "([BI)B"⟩ : MethodName)) hown (mvT hZ (hw _ (List.mem_of_getElem? (i := 52) rfl))) (mvT hZ (hw _ (List.mem_of_getElem? (i := 53) rfl))) (mvT hZ (hw _ (List.mem_of_getElem? (i := 47) rfl))) (mvT hZ (hw _ (List.mem_of_getElem? (i := 54) rfl))) (by decide) (backOf (W := 1) (rm_cfl31 l Z a0 hw [] b295 (hb' c0) (lb' c0) (hb' c1) (lb' c1) (hb' c2) (lb' c2) T295.heap n0 _ Z295  V295v) hZ (hw _ (List.mem_of_getElem? (i := 54) rfl)) (hw _ (List.mem_of_getElem? (i := 47) rfl)) (by decide) (by decide)) (g := (mkF m 45 #[.val (.ref a), .val (.ref q), .val (.int (0 : Int32)), .val (.int (3 : Int32)), .val .null, .val (.ref b295)] [(.int (3 : Int32)), (.ref b295), (.ref a)])) rfl (by rw [hml]; rfl) (argsL := [(.ref b295), (.int (3 : Int32))]) (rest := [(.ref a)]) (lenOf pd_9 rfl) rfl (by show 2 * 0 + _ ≤ _; exact Nat.le_of_eq rfl) (hb hby dj42m149_45) (fun _ _ => ⟨rfl, rfl, Nat.le_of_ble_eq_true rfl, Nat.le_of_ble_eq_true rfl⟩)
  dsimp only [Pt.U, Pt.locs, Pt.cells, Pt.slots] at X296 l296 y296 z296 st296 hQ296
  rw [l296, y296, z296] at X296
  obtain ⟨rfl, rfl, e296⟩ := hQ296
  have N296 := Fr.app N295 (Fr.nil n0)
  refine OGets.step st296 ?_
  obtain ⟨T297, h297, X297, e297, W297, st297⟩ := putFN X296 hx hZ hown (hw _ (List.mem_of_getElem? (i := 27) rfl)) Via.refl e296 (V295v.fld 2 rfl 1 rfl rfl) (V295v.exa 2 rfl) (Or.inr ⟨(hw _ (List.mem_of_getElem? (i := 23) rfl)), rfl, hnm⟩) (hw _ (List.mem_of_getElem? (i := 7) rfl)) (ty := .byte) (v' := (.int (1 : Int32))) (by decide) rfl (by decide) (g := (mkF m 48 #[.val (.ref a), .val (.ref q), .val (.int (0 : Int32)), .val (.int (3 : Int32)), .val .null, .val (.ref b295)] [(.int (1 : Int32)), (.ref a)])) rfl rfl (hb hby dj42m149_48)
  have V297 : OView Z n0 h297 (((b295, Sum.inr (.byte, [(.int (hb' c0)), (.int (lb' c0)), (.int (hb' c1)), (.int (lb' c1)), (.int (hb' c2)), (.int (lb' c2))])) : Addr × OObj) :: ((q, Sum.inr (.char, [(.int c0), (.int c1), (.int c2)])) : Addr × OObj) :: ((a, Sum.inl ("java/lang/String", ns_String, [.null, (.int (1 : Int32))])) : Addr × OObj) :: F) := V295v.putF 2 rfl 1 rfl W297
  have N297 := Fr.snoc X297 N296 (V295v.old 2 rfl)
  have Z297 : n0 ≤ h297.size := by rw [W297.size]; exact Z295
  have O297 := O295q.wr W297 (V295v.old 2 rfl)
  refine OGets.step st297 ?_
  refine OGets.step (fun _ => XS.aloadN X297.here hx rfl (hb hby dj42m149_51) rfl rfl) ?_
  refine OGets.step (fun _ => XS.aload X297.here hx rfl (hb hby dj42m149_52) rfl rfl) ?_
  obtain ⟨T298, h298, X298, e298, W298, st298⟩ := putF X297 hx hZ hown (host := "") (Or.inl (hw _ (List.mem_of_getElem? (i := 26) rfl))) Via.refl e297 (V297.fld 2 rfl 0 rfl rfl) (V297.exa 2 rfl) (Or.inr ⟨(hw _ (List.mem_of_getElem? (i := 22) rfl)), rfl, hnm⟩) (hw _ (List.mem_of_getElem? (i := 7) rfl)) (ty := (.array .byte)) (by decide) rfl rfl (g := (mkF m 54 #[.val (.ref a), .val (.ref q), .val (.int (0 : Int32)), .val (.int (3 : Int32)), .val .null, .val (.ref b295)] [(.ref b295), (.ref a)])) rfl rfl (hb hby dj42m149_54)
  have V298 : OView Z n0 h298 (((b295, Sum.inr (.byte, [(.int (hb' c0)), (.int (lb' c0)), (.int (hb' c1)), (.int (lb' c1)), (.int (hb' c2)), (.int (lb' c2))])) : Addr × OObj) :: ((q, Sum.inr (.char, [(.int c0), (.int c1), (.int c2)])) : Addr × OObj) :: ((a, Sum.inl ("java/lang/String", ns_String, [(.ref b295), (.int (1 : Int32))])) : Addr × OObj) :: F) := V297.putF 2 rfl 0 rfl W298
  have N298 := Fr.snoc X298 N297 (V297.old 2 rfl)
  have Z298 : n0 ≤ h298.size := by rw [W298.size]; exact Z297
  have O298 := O297.wr W298 (V297.old 2 rfl)
  refine OGets.step st298 ?_
  refine OGets.retV X298 hx hlk Bd.returns (hb hby dj42m149_57) (Nat.le_of_ble_eq_true rfl) (Nat.le_of_ble_eq_true rfl) ?_
  have Vp299 : OView Z _ h298 (((a, Sum.inl ("java/lang/String", ns_String, [(.ref b295), (.int (1 : Int32))])) : Addr × OObj) :: ((b295, Sum.inr (.byte, [(.int (hb' c0)), (.int (lb' c0)), (.int (hb' c1)), (.int (lb' c1)), (.int (hb' c2)), (.int (lb' c2))])) : Addr × OObj) :: ((q, Sum.inr (.char, [(.int c0), (.int c1), (.int c2)])) : Addr × OObj) :: F) := (V298.bring 2 rfl)
  rw [e298]
  exact ⟨rfl, N298, b295, Vp299, O298⟩
theorem ef_i1_32 (m : MethodId) (x0 : Addr) (x1 : Addr) : entryFrame m #[(.ref x0), (.ref x1)] 2 = mkF m 0 #[.val (.ref x0), .val (.ref x1)] [] := by first | (simp [entryFrame, mkF, argsToLocals, Value.category]; done) | rfl
def Q_i1_32 (Z : State) (a : Addr) (q : Addr) (G : Int32) (c0 : Int32) (c1 : Int32) (c2 : Int32) (h0 : Heap) (n0 : Nat) (F : List (Addr × OObj)) (v : Option Value) (h : Heap) (L : List Loc) : Prop := v = none ∧ Fr n0 L ∧ ∃ b : Addr, OView Z n0 h (((a, Sum.inl ("java/lang/String", ns_String, [(.ref b), (.int (1 : Int32))])) : Addr × OObj) :: ((b, Sum.inr (.byte, [(.int (hb' c0)), (.int (lb' c0)), (.int (hb' c1)), (.int (lb' c1)), (.int (hb' c2)), (.int (lb' c2))])) : Addr × OObj) :: ((q, Sum.inr (.char, [(.int c0), (.int c1), (.int c2)])) : Addr × OObj) :: F) ∧ Old Z n0 h
set_option maxRecDepth 65536 in
set_option maxHeartbeats 40000000 in
theorem rm_i1_32 (l : Launch) (Z : State) (a0 : Array Value) (hw : ∀ d ∈ tables_1, d.before a0 Z = true) (ws : List Jvm.Cond) (a : Addr) (q : Addr) (G : Int32) (c0 : Int32) (c1 : Int32) (c2 : Int32) (h0 : Heap) (n0 : Nat) (F : List (Addr × OObj)) (Z0 : n0 ≤ h0.size) (S0 : Sta Z Z.heap "java/lang/String" "COMPACT_STRINGS" "Z" (.int G)) (hG : ¬ G = (0 : Int32)) (SA : Sta Z Z.heap "java/lang/StringUTF16" "$assertionsDisabled" "Z" (.int (1 : Int32))) (SH : Sta Z Z.heap "java/lang/StringUTF16" "HI_BYTE_SHIFT" "I" (.int (0 : Int32))) (SL : Sta Z Z.heap "java/lang/StringUTF16" "LO_BYTE_SHIFT" "I" (.int (8 : Int32))) (u0 : ¬ (255 : Int32) < c0) (u1 : ¬ (255 : Int32) < c1) (u2 : (255 : Int32) < c2) (w2 : Ch c2) (V0 : OView Z n0 h0 (((a, Sum.inl ("java/lang/String", ns_String, [.null, (.int (0 : Int32))])) : Addr × OObj) :: ((q, Sum.inr (.char, [(.int c0), (.int c1), (.int c2)])) : Addr × OObj) :: F)) (O0 : Old Z n0 h0) :
    MetFree l (⟨"java/lang/String", "<init>", "([C)V"⟩ : MethodName) (head1 (Jvm.Cond.code (⟨"java/lang/String", "<init>", "([C)V"⟩ : MethodName) jdk_42_method_3_code 2 none :: ws) ({ frames := 5, cells := 2, slots := 9, locals := 74 } : Room)) (fun a_ U => a_ = #[(.ref a), (.ref q)] ∧ Z.Warmed39 U.vm ∧ U.heap = h0) (fun _ _ _ _ _ => True) (fun _ U o U' => ∃ v L, o = .returned v ∧ Q_i1_32 Z a q G c0 c1 c2 h0 n0 F v U'.heap L ∧ FrameEnd U o U' L ({ frames := 5, cells := 2, slots := 9, locals := 74 } : Room).cells ({ frames := 5, cells := 2, slots := 9, locals := 74 } : Room).slots) := by
  refine MetFree.of_bodySF (plainFor_of_name pn_8) hisR ?_
  intro p e s m args below meth c s₁ Bd hml0 hP hK
  obtain ⟨rfl, hZ, hh⟩ := hP
  have hx := Bd.exec
  have hby := Bd.bytes
  have hlk : meth.locks = false := Bd.notSynchronized
  have hml : c.maxLocals = 2 := hml0
  have hown : s.vm.findClass "java/lang/String" = some m.cls := findClass_of_methodNamed Bd.named
  have hnm := (name_of_methodNamed Bd.named Bd.method).1
  have X0 : Stand p l e ({ frames := 5, cells := 2, slots := 9, locals := 74 } : Room) s m #[(.ref a), (.ref q)] below meth c s₁ [] 0 0 := Stand.of_body Bd
  have e0 : s₁.heap = h0 := by rw [← hh, Bd.state]; rfl
  have N0 := Fr.nil n0
  show OGets p e below (OLeaves s (Q_i1_32 Z a q G c0 c1 c2 h0 n0 F ) ({ frames := 5, cells := 2, slots := 9, locals := 74 } : Room).cells ({ frames := 5, cells := 2, slots := 9, locals := 74 } : Room).slots) _
  refine OGets.enter (ef_i1_32 m a q) ?_
  show OGets p e below _ (s₁.setTop (mkF m 0 #[.val (.ref a), .val (.ref q)] []))
  refine OGets.step (fun _ => XS.aloadN X0.here hx rfl (hb hby dj42m3_0) rfl rfl) ?_
  refine OGets.step (fun _ => XS.aloadN X0.here hx rfl (hb hby dj42m3_1) rfl rfl) ?_
  refine OGets.step (fun _ => XS.iconst X0.here hx rfl (hb hby dj42m3_2)) ?_
  refine OGets.step (fun _ => XS.aloadN X0.here hx rfl (hb hby dj42m3_3) rfl rfl) ?_
  obtain ⟨cl300, Ar300, S300⟩ := V0.arr 1 rfl
  have ln300 : cl300.slots.size.toInt32 = (3 : Int32) := by rw [own_len S300]; rfl
  refine OGets.step (U' := s₁.setTop (mkF m 5 #[.val (.ref a), .val (.ref q)] [(.int (3 : Int32)), (.int (0 : Int32)), (.ref q), (.ref a)])) (fun t kt => ?_) ?_
  · refine X0.arraylength hx (by rw [e0]; exact Ar300.1) (State.isArrayOf_alike hZ.alike Ar300.2.1) (g := (mkF m 4 #[.val (.ref a), .val (.ref q)] [(.ref q), (.int (0 : Int32)), (.ref q), (.ref a)])) rfl rfl (hb hby dj42m3_4) _ ?_
    rw [ln300]; exact kt
  refine OGets.step (fun _ => XS.aconstNull X0.here hx rfl (hb hby dj42m3_5)) ?_
  show OGets p e below _ (s₁.setTop (mkF m 6 #[.val (.ref a), .val (.ref q)] [.null, (.int (3 : Int32)), (.int (0 : Int32)), (.ref q), (.ref a)]))
  obtain ⟨_, _, ⟨T301, L301, k301, n301⟩, -, X301, ⟨Lc301, hQ301, l301, y301, z301⟩, st301⟩ := X0.specialBack hx (y := (⟨"java/lang/String", "<init>", "([CIILjava/lang/Void;)V"⟩ : MethodName)) rfl hown (mvT hZ (hw _ (List.mem_of_getElem? (i := 13) rfl))) (mvT hZ (hw _ (List.mem_of_getElem? (i := 14) rfl))) (mvT hZ (hw _ (List.mem_of_getElem? (i := 16) rfl))) (by decide) (backOf (W := 0) (rm_i4_32 l Z a0 hw [] a q G c0 c1 c2 h0 n0 _ Z0 S0 hG SA SH SL u0 u1 u2 w2 V0 O0) hZ (hw _ (List.mem_of_getElem? (i := 16) rfl)) (hw _ (List.mem_of_getElem? (i := 8) rfl)) (by decide) (by decide)) (g := (mkF m 6 #[.val (.ref a), .val (.ref q)] [.null, (.int (3 : Int32)), (.int (0 : Int32)), (.ref q), (.ref a)])) rfl (by rw [hml]; rfl) (Steps.refl _) (a := a) (argsL := [(.ref q), (.int (0 : Int32)), (.int (3 : Int32)), .null]) (rest := []) (lenOf pd_10 rfl) rfl (by show 2 * 0 + _ ≤ _; exact Nat.le_of_eq rfl) (hb hby dj42m3_6) (fun _ _ => ⟨rfl, e0, Nat.le_of_ble_eq_true rfl, Nat.le_of_ble_eq_true rfl⟩)
  dsimp only [Pt.U, Pt.locs, Pt.cells, Pt.slots] at X301 l301 y301 z301 st301 hQ301
  rw [l301, y301, z301] at X301
  obtain ⟨rfl, N301q, b301, V301, O301q⟩ := hQ301
  have N301 := Fr.app N0 N301q
  have V301v : OView Z n0 T301.heap (((a, Sum.inl ("java/lang/String", ns_String, [(.ref b301), (.int (1 : Int32))])) : Addr × OObj) :: ((b301, Sum.inr (.byte, [(.int (hb' c0)), (.int (lb' c0)), (.int (hb' c1)), (.int (lb' c1)), (.int (hb' c2)), (.int (lb' c2))])) : Addr × OObj) :: ((q, Sum.inr (.char, [(.int c0), (.int c1), (.int c2)])) : Addr × OObj) :: F) := V301
  have Z301 : n0 ≤ T301.heap.size := V301v.big 0 rfl
  refine OGets.after st301 ?_
  refine OGets.retV X301 hx hlk Bd.returns (hb hby dj42m3_9) (Nat.le_of_ble_eq_true rfl) (Nat.le_of_ble_eq_true rfl) ?_
  exact ⟨rfl, N301, b301, V301v, O301q⟩
theorem ef_c5_33 (m : MethodId) (x0 : Addr) (x1 : Int32) (x2 : Addr) (x3 : Int32) (x4 : Int32) : entryFrame m #[(.ref x0), (.int x1), (.ref x2), (.int x3), (.int x4)] 7 = mkF m 0 #[.val (.ref x0), .val (.int x1), .val (.ref x2), .val (.int x3), .val (.int x4), .unset, .unset] [] := by first | (simp [entryFrame, mkF, argsToLocals, Value.category]; done) | rfl
def Q_c5_33 (Z : State) (a : Addr) (b : Addr) (c0 : Int32) (c1 : Int32) (c2 : Int32) (h0 : Heap) (n0 : Nat) (F : List (Addr × OObj)) (v : Option Value) (h : Heap) (L : List Loc) : Prop := v = some (.int (3 : Int32)) ∧ Fr n0 L ∧ OView Z n0 h (((a, Sum.inr (.char, [(.int c0), (.int c1), (.int c2)])) : Addr × OObj) :: ((b, Sum.inr (.byte, [(.int (yb c0)), (.int (yb c1)), (.int (yb c2))])) : Addr × OObj) :: F) ∧ Old Z n0 h
set_option maxRecDepth 65536 in
set_option maxHeartbeats 40000000 in
theorem rm_c5_33 (l : Launch) (Z : State) (a0 : Array Value) (hw : ∀ d ∈ tables_1, d.before a0 Z = true) (ws : List Jvm.Cond) (a : Addr) (b : Addr) (c0 : Int32) (c1 : Int32) (c2 : Int32) (h0 : Heap) (n0 : Nat) (F : List (Addr × OObj)) (Z0 : n0 ≤ h0.size) (u0 : ¬ (255 : Int32) < c0) (u1 : ¬ (255 : Int32) < c1) (u2 : ¬ (255 : Int32) < c2) (V0 : OView Z n0 h0 (((a, Sum.inr (.char, [(.int c0), (.int c1), (.int c2)])) : Addr × OObj) :: ((b, Sum.inr (.byte, [(.int (0 : Int32)), (.int (0 : Int32)), (.int (0 : Int32))])) : Addr × OObj) :: F)) (O0 : Old Z n0 h0) :
    MetFree l (⟨"java/lang/StringUTF16", "compress", "([CI[BII)I"⟩ : MethodName) (head1 (Jvm.Cond.code (⟨"java/lang/StringUTF16", "compress", "([CI[BII)I"⟩ : MethodName) jdk_52_method_21_code 7 (some .int) :: ws) ({ frames := 0, cells := 0, slots := 0, locals := 0 } : Room)) (fun a_ U => a_ = #[(.ref a), (.int (0 : Int32)), (.ref b), (.int (0 : Int32)), (.int (3 : Int32))] ∧ Z.Warmed39 U.vm ∧ U.heap = h0) (fun _ _ _ _ _ => True) (fun _ U o U' => ∃ v L, o = .returned v ∧ Q_c5_33 Z a b c0 c1 c2 h0 n0 F v U'.heap L ∧ FrameEnd U o U' L ({ frames := 0, cells := 0, slots := 0, locals := 0 } : Room).cells ({ frames := 0, cells := 0, slots := 0, locals := 0 } : Room).slots) := by
  refine MetFree.of_bodySF (plainFor_of_name pn_1) hisR ?_
  intro p e s m args below meth c s₁ Bd hml0 hP hK
  obtain ⟨rfl, hZ, hh⟩ := hP
  have hx := Bd.exec
  have hby := Bd.bytes
  have hlk : meth.locks = false := Bd.notSynchronized
  have hml : c.maxLocals = 7 := hml0
  have hown : s.vm.findClass "java/lang/StringUTF16" = some m.cls := findClass_of_methodNamed Bd.named
  have hnm := (name_of_methodNamed Bd.named Bd.method).1
  have X0 : Stand p l e ({ frames := 0, cells := 0, slots := 0, locals := 0 } : Room) s m #[(.ref a), (.int (0 : Int32)), (.ref b), (.int (0 : Int32)), (.int (3 : Int32))] below meth c s₁ [] 0 0 := Stand.of_body Bd
  have e0 : s₁.heap = h0 := by rw [← hh, Bd.state]; rfl
  have N0 := Fr.nil n0
  show OGets p e below (OLeaves s (Q_c5_33 Z a b c0 c1 c2 h0 n0 F ) ({ frames := 0, cells := 0, slots := 0, locals := 0 } : Room).cells ({ frames := 0, cells := 0, slots := 0, locals := 0 } : Room).slots) _
  refine OGets.enter (ef_c5_33 m a (0 : Int32) b (0 : Int32) (3 : Int32)) ?_
  show OGets p e below _ (s₁.setTop (mkF m 0 #[.val (.ref a), .val (.int (0 : Int32)), .val (.ref b), .val (.int (0 : Int32)), .val (.int (3 : Int32)), .unset, .unset] []))
  refine OGets.step (fun _ => XS.iconst X0.here hx rfl (hb hby dj52m21_0)) ?_
  refine OGets.step (fun _ => XS.istore X0.here hx rfl (hb hby dj52m21_1) rfl (l' := #[.val (.ref a), .val (.int (0 : Int32)), .val (.ref b), .val (.int (0 : Int32)), .val (.int (3 : Int32)), .val (.int (0 : Int32)), .unset]) rfl) ?_
  refine OGets.step (fun _ => XS.iload X0.here hx rfl (hb hby dj52m21_3) rfl) ?_
  refine OGets.step (fun _ => XS.iload X0.here hx rfl (hb hby dj52m21_5) rfl) ?_
  refine OGets.step (fun _ => XS.icmpNo X0.here hx rfl (hb hby dj52m21_7) rfl (tlt (by decide : (0 : Int32) < (3 : Int32))).2.1) ?_
  refine OGets.step (fun _ => XS.aloadN X0.here hx rfl (hb hby dj52m21_10) rfl rfl) ?_
  show OGets p e below _ (s₁.setTop (mkF m 11 #[.val (.ref a), .val (.int (0 : Int32)), .val (.ref b), .val (.int (0 : Int32)), .val (.int (3 : Int32)), .val (.int (0 : Int32)), .unset] [(.ref a)]))
  refine OGets.step (fun _ => XS.iloadN X0.here hx rfl (hb hby dj52m21_11) rfl) ?_
  obtain ⟨cl303, Ar303, S303⟩ := V0.arr 0 rfl
  refine OGets.step (fun _ => X0.caload hx (j := (0 : Int32)) (v := (.int c0)) (by rw [e0]; exact Ar303.1) (State.isArrayOf_alike hZ.alike Ar303.2.1) Ar303.2.2 (own_inb S303 0 (by decide) (Nat.le_of_ble_eq_true rfl)) (own_get S303 0 (by decide) rfl) (g := (mkF m 12 #[.val (.ref a), .val (.int (0 : Int32)), .val (.ref b), .val (.int (0 : Int32)), .val (.int (3 : Int32)), .val (.int (0 : Int32)), .unset] [(.int (0 : Int32)), (.ref a)])) rfl rfl (hb hby dj52m21_12) _) ?_
  refine OGets.step (fun _ => XS.istore X0.here hx rfl (hb hby dj52m21_13) rfl (l' := #[.val (.ref a), .val (.int (0 : Int32)), .val (.ref b), .val (.int (0 : Int32)), .val (.int (3 : Int32)), .val (.int (0 : Int32)), .val (.int c0)]) rfl) ?_
  refine OGets.step (fun _ => XS.iload X0.here hx rfl (hb hby dj52m21_15) rfl) ?_
  refine OGets.step (fun _ => XS.sipush X0.here hx rfl (hb hby dj52m21_17)) ?_
  refine OGets.step (fun _ => XS.icmpYes X0.here hx rfl (pc0 := 20) (pc' := 26) rfl (hb hby dj52m21_20) rfl (flt (u0 : ¬ ((255 : Int32) < c0))).2.2.2 (by decide) (by decide)) ?_
  show OGets p e below _ (s₁.setTop (mkF m 26 #[.val (.ref a), .val (.int (0 : Int32)), .val (.ref b), .val (.int (0 : Int32)), .val (.int (3 : Int32)), .val (.int (0 : Int32)), .val (.int c0)] []))
  refine OGets.step (fun _ => XS.aloadN X0.here hx rfl (hb hby dj52m21_26) rfl rfl) ?_
  refine OGets.step (fun _ => XS.iloadN X0.here hx rfl (hb hby dj52m21_27) rfl) ?_
  refine OGets.step (fun _ => XS.iload X0.here hx rfl (hb hby dj52m21_28) rfl) ?_
  refine OGets.step (fun _ => XS.i2b X0.here hx rfl (hb hby dj52m21_30) rfl) ?_
  obtain ⟨cl305, Ar305, S305⟩ := V0.arr 1 rfl
  obtain ⟨T305, h305, X305, e305, W305', st305⟩ := stB X0 hx hZ e0 Ar305 (j := (0 : Int32)) (own_inb S305 0 (by decide) (Nat.le_of_ble_eq_true rfl)) (g := (mkF m 31 #[.val (.ref a), .val (.int (0 : Int32)), .val (.ref b), .val (.int (0 : Int32)), .val (.int (3 : Int32)), .val (.int (0 : Int32)), .val (.int c0)] [(.int (c0.toInt8.toInt32)), (.int (0 : Int32)), (.ref b)])) rfl rfl (hb hby dj52m21_31)
  have W305 := own_wr (vs := []) 0 (by decide) W305'
  have V305 : OView Z n0 h305 (((a, Sum.inr (.char, [(.int c0), (.int c1), (.int c2)])) : Addr × OObj) :: ((b, Sum.inr (.byte, [(.int (yb c0)), (.int (0 : Int32)), (.int (0 : Int32))])) : Addr × OObj) :: F) := V0.putA 1 rfl W305
  have N305 := Fr.snoc X305 N0 (V0.old 1 rfl)
  have Z305 : n0 ≤ h305.size := by rw [W305.size]; exact Z0
  have O305 := O0.wr W305 (V0.old 1 rfl)
  refine OGets.step st305 ?_
  refine OGets.step (fun _ => XS.iinc X305.here hx rfl (hb hby dj52m21_32) rfl (l' := #[.val (.ref a), .val (.int (1 : Int32)), .val (.ref b), .val (.int (0 : Int32)), .val (.int (3 : Int32)), .val (.int (0 : Int32)), .val (.int c0)]) rfl) ?_
  refine OGets.step (fun _ => XS.iinc X305.here hx rfl (hb hby dj52m21_35) rfl (l' := #[.val (.ref a), .val (.int (1 : Int32)), .val (.ref b), .val (.int (1 : Int32)), .val (.int (3 : Int32)), .val (.int (0 : Int32)), .val (.int c0)]) rfl) ?_
  refine OGets.step (fun _ => XS.iinc X305.here hx rfl (hb hby dj52m21_38) rfl (l' := #[.val (.ref a), .val (.int (1 : Int32)), .val (.ref b), .val (.int (1 : Int32)), .val (.int (3 : Int32)), .val (.int (1 : Int32)), .val (.int c0)]) rfl) ?_
  refine OGets.step (fun _ => XS.goto X305.here hx rfl (pc0 := 41) (pc' := 3) rfl (hb hby dj52m21_41) (by decide) (by decide)) ?_
  refine OGets.step (fun _ => XS.iload X305.here hx rfl (hb hby dj52m21_3) rfl) ?_
  show OGets p e below _ (T305.setTop (mkF m 5 #[.val (.ref a), .val (.int (1 : Int32)), .val (.ref b), .val (.int (1 : Int32)), .val (.int (3 : Int32)), .val (.int (1 : Int32)), .val (.int c0)] [(.int (1 : Int32))]))
  refine OGets.step (fun _ => XS.iload X305.here hx rfl (hb hby dj52m21_5) rfl) ?_
  refine OGets.step (fun _ => XS.icmpNo X305.here hx rfl (hb hby dj52m21_7) rfl (tlt (by decide : (1 : Int32) < (3 : Int32))).2.1) ?_
  refine OGets.step (fun _ => XS.aloadN X305.here hx rfl (hb hby dj52m21_10) rfl rfl) ?_
  refine OGets.step (fun _ => XS.iloadN X305.here hx rfl (hb hby dj52m21_11) rfl) ?_
  obtain ⟨cl307, Ar307, S307⟩ := V305.arr 0 rfl
  refine OGets.step (fun _ => X305.caload hx (j := (1 : Int32)) (v := (.int c1)) (by rw [e305]; exact Ar307.1) (State.isArrayOf_alike hZ.alike Ar307.2.1) Ar307.2.2 (own_inb S307 1 (by decide) (Nat.le_of_ble_eq_true rfl)) (own_get S307 1 (by decide) rfl) (g := (mkF m 12 #[.val (.ref a), .val (.int (1 : Int32)), .val (.ref b), .val (.int (1 : Int32)), .val (.int (3 : Int32)), .val (.int (1 : Int32)), .val (.int c0)] [(.int (1 : Int32)), (.ref a)])) rfl rfl (hb hby dj52m21_12) _) ?_
  refine OGets.step (fun _ => XS.istore X305.here hx rfl (hb hby dj52m21_13) rfl (l' := #[.val (.ref a), .val (.int (1 : Int32)), .val (.ref b), .val (.int (1 : Int32)), .val (.int (3 : Int32)), .val (.int (1 : Int32)), .val (.int c1)]) rfl) ?_
  show OGets p e below _ (T305.setTop (mkF m 15 #[.val (.ref a), .val (.int (1 : Int32)), .val (.ref b), .val (.int (1 : Int32)), .val (.int (3 : Int32)), .val (.int (1 : Int32)), .val (.int c1)] []))
  refine OGets.step (fun _ => XS.iload X305.here hx rfl (hb hby dj52m21_15) rfl) ?_
  refine OGets.step (fun _ => XS.sipush X305.here hx rfl (hb hby dj52m21_17)) ?_
  refine OGets.step (fun _ => XS.icmpYes X305.here hx rfl (pc0 := 20) (pc' := 26) rfl (hb hby dj52m21_20) rfl (flt (u1 : ¬ ((255 : Int32) < c1))).2.2.2 (by decide) (by decide)) ?_
  refine OGets.step (fun _ => XS.aloadN X305.here hx rfl (hb hby dj52m21_26) rfl rfl) ?_
  refine OGets.step (fun _ => XS.iloadN X305.here hx rfl (hb hby dj52m21_27) rfl) ?_
  refine OGets.step (fun _ => XS.iload X305.here hx rfl (hb hby dj52m21_28) rfl) ?_
  show OGets p e below _ (T305.setTop (mkF m 30 #[.val (.ref a), .val (.int (1 : Int32)), .val (.ref b), .val (.int (1 : Int32)), .val (.int (3 : Int32)), .val (.int (1 : Int32)), .val (.int c1)] [(.int c1), (.int (1 : Int32)), (.ref b)]))
  refine OGets.step (fun _ => XS.i2b X305.here hx rfl (hb hby dj52m21_30) rfl) ?_
  obtain ⟨cl309, Ar309, S309⟩ := V305.arr 1 rfl
  obtain ⟨T309, h309, X309, e309, W309', st309⟩ := stB X305 hx hZ e305 Ar309 (j := (1 : Int32)) (own_inb S309 1 (by decide) (Nat.le_of_ble_eq_true rfl)) (g := (mkF m 31 #[.val (.ref a), .val (.int (1 : Int32)), .val (.ref b), .val (.int (1 : Int32)), .val (.int (3 : Int32)), .val (.int (1 : Int32)), .val (.int c1)] [(.int (c1.toInt8.toInt32)), (.int (1 : Int32)), (.ref b)])) rfl rfl (hb hby dj52m21_31)
  have W309 := own_wr (vs := []) 1 (by decide) W309'
  have V309 : OView Z n0 h309 (((a, Sum.inr (.char, [(.int c0), (.int c1), (.int c2)])) : Addr × OObj) :: ((b, Sum.inr (.byte, [(.int (yb c0)), (.int (yb c1)), (.int (0 : Int32))])) : Addr × OObj) :: F) := V305.putA 1 rfl W309
  have N309 := Fr.snoc X309 N305 (V305.old 1 rfl)
  have Z309 : n0 ≤ h309.size := by rw [W309.size]; exact Z305
  have O309 := O305.wr W309 (V305.old 1 rfl)
  refine OGets.step st309 ?_
  refine OGets.step (fun _ => XS.iinc X309.here hx rfl (hb hby dj52m21_32) rfl (l' := #[.val (.ref a), .val (.int (2 : Int32)), .val (.ref b), .val (.int (1 : Int32)), .val (.int (3 : Int32)), .val (.int (1 : Int32)), .val (.int c1)]) rfl) ?_
  refine OGets.step (fun _ => XS.iinc X309.here hx rfl (hb hby dj52m21_35) rfl (l' := #[.val (.ref a), .val (.int (2 : Int32)), .val (.ref b), .val (.int (2 : Int32)), .val (.int (3 : Int32)), .val (.int (1 : Int32)), .val (.int c1)]) rfl) ?_
  refine OGets.step (fun _ => XS.iinc X309.here hx rfl (hb hby dj52m21_38) rfl (l' := #[.val (.ref a), .val (.int (2 : Int32)), .val (.ref b), .val (.int (2 : Int32)), .val (.int (3 : Int32)), .val (.int (2 : Int32)), .val (.int c1)]) rfl) ?_
  refine OGets.step (fun _ => XS.goto X309.here hx rfl (pc0 := 41) (pc' := 3) rfl (hb hby dj52m21_41) (by decide) (by decide)) ?_
  refine OGets.step (fun _ => XS.iload X309.here hx rfl (hb hby dj52m21_3) rfl) ?_
  show OGets p e below _ (T309.setTop (mkF m 5 #[.val (.ref a), .val (.int (2 : Int32)), .val (.ref b), .val (.int (2 : Int32)), .val (.int (3 : Int32)), .val (.int (2 : Int32)), .val (.int c1)] [(.int (2 : Int32))]))
  refine OGets.step (fun _ => XS.iload X309.here hx rfl (hb hby dj52m21_5) rfl) ?_
  refine OGets.step (fun _ => XS.icmpNo X309.here hx rfl (hb hby dj52m21_7) rfl (tlt (by decide : (2 : Int32) < (3 : Int32))).2.1) ?_
  refine OGets.step (fun _ => XS.aloadN X309.here hx rfl (hb hby dj52m21_10) rfl rfl) ?_
  refine OGets.step (fun _ => XS.iloadN X309.here hx rfl (hb hby dj52m21_11) rfl) ?_
  obtain ⟨cl311, Ar311, S311⟩ := V309.arr 0 rfl
  refine OGets.step (fun _ => X309.caload hx (j := (2 : Int32)) (v := (.int c2)) (by rw [e309]; exact Ar311.1) (State.isArrayOf_alike hZ.alike Ar311.2.1) Ar311.2.2 (own_inb S311 2 (by decide) (Nat.le_of_ble_eq_true rfl)) (own_get S311 2 (by decide) rfl) (g := (mkF m 12 #[.val (.ref a), .val (.int (2 : Int32)), .val (.ref b), .val (.int (2 : Int32)), .val (.int (3 : Int32)), .val (.int (2 : Int32)), .val (.int c1)] [(.int (2 : Int32)), (.ref a)])) rfl rfl (hb hby dj52m21_12) _) ?_
  refine OGets.step (fun _ => XS.istore X309.here hx rfl (hb hby dj52m21_13) rfl (l' := #[.val (.ref a), .val (.int (2 : Int32)), .val (.ref b), .val (.int (2 : Int32)), .val (.int (3 : Int32)), .val (.int (2 : Int32)), .val (.int c2)]) rfl) ?_
  show OGets p e below _ (T309.setTop (mkF m 15 #[.val (.ref a), .val (.int (2 : Int32)), .val (.ref b), .val (.int (2 : Int32)), .val (.int (3 : Int32)), .val (.int (2 : Int32)), .val (.int c2)] []))
  refine OGets.step (fun _ => XS.iload X309.here hx rfl (hb hby dj52m21_15) rfl) ?_
  refine OGets.step (fun _ => XS.sipush X309.here hx rfl (hb hby dj52m21_17)) ?_
  refine OGets.step (fun _ => XS.icmpYes X309.here hx rfl (pc0 := 20) (pc' := 26) rfl (hb hby dj52m21_20) rfl (flt (u2 : ¬ ((255 : Int32) < c2))).2.2.2 (by decide) (by decide)) ?_
  refine OGets.step (fun _ => XS.aloadN X309.here hx rfl (hb hby dj52m21_26) rfl rfl) ?_
  refine OGets.step (fun _ => XS.iloadN X309.here hx rfl (hb hby dj52m21_27) rfl) ?_
  refine OGets.step (fun _ => XS.iload X309.here hx rfl (hb hby dj52m21_28) rfl) ?_
  show OGets p e below _ (T309.setTop (mkF m 30 #[.val (.ref a), .val (.int (2 : Int32)), .val (.ref b), .val (.int (2 : Int32)), .val (.int (3 : Int32)), .val (.int (2 : Int32)), .val (.int c2)] [(.int c2), (.int (2 : Int32)), (.ref b)]))
  refine OGets.step (fun _ => XS.i2b X309.here hx rfl (hb hby dj52m21_30) rfl) ?_
  obtain ⟨cl313, Ar313, S313⟩ := V309.arr 1 rfl
  obtain ⟨T313, h313, X313, e313, W313', st313⟩ := stB X309 hx hZ e309 Ar313 (j := (2 : Int32)) (own_inb S313 2 (by decide) (Nat.le_of_ble_eq_true rfl)) (g := (mkF m 31 #[.val (.ref a), .val (.int (2 : Int32)), .val (.ref b), .val (.int (2 : Int32)), .val (.int (3 : Int32)), .val (.int (2 : Int32)), .val (.int c2)] [(.int (c2.toInt8.toInt32)), (.int (2 : Int32)), (.ref b)])) rfl rfl (hb hby dj52m21_31)
  have W313 := own_wr (vs := []) 2 (by decide) W313'
  have V313 : OView Z n0 h313 (((a, Sum.inr (.char, [(.int c0), (.int c1), (.int c2)])) : Addr × OObj) :: ((b, Sum.inr (.byte, [(.int (yb c0)), (.int (yb c1)), (.int (yb c2))])) : Addr × OObj) :: F) := V309.putA 1 rfl W313
  have N313 := Fr.snoc X313 N309 (V309.old 1 rfl)
  have Z313 : n0 ≤ h313.size := by rw [W313.size]; exact Z309
  have O313 := O309.wr W313 (V309.old 1 rfl)
  refine OGets.step st313 ?_
  refine OGets.step (fun _ => XS.iinc X313.here hx rfl (hb hby dj52m21_32) rfl (l' := #[.val (.ref a), .val (.int (3 : Int32)), .val (.ref b), .val (.int (2 : Int32)), .val (.int (3 : Int32)), .val (.int (2 : Int32)), .val (.int c2)]) rfl) ?_
  refine OGets.step (fun _ => XS.iinc X313.here hx rfl (hb hby dj52m21_35) rfl (l' := #[.val (.ref a), .val (.int (3 : Int32)), .val (.ref b), .val (.int (3 : Int32)), .val (.int (3 : Int32)), .val (.int (2 : Int32)), .val (.int c2)]) rfl) ?_
  refine OGets.step (fun _ => XS.iinc X313.here hx rfl (hb hby dj52m21_38) rfl (l' := #[.val (.ref a), .val (.int (3 : Int32)), .val (.ref b), .val (.int (3 : Int32)), .val (.int (3 : Int32)), .val (.int (3 : Int32)), .val (.int c2)]) rfl) ?_
  refine OGets.step (fun _ => XS.goto X313.here hx rfl (pc0 := 41) (pc' := 3) rfl (hb hby dj52m21_41) (by decide) (by decide)) ?_
  refine OGets.step (fun _ => XS.iload X313.here hx rfl (hb hby dj52m21_3) rfl) ?_
  show OGets p e below _ (T313.setTop (mkF m 5 #[.val (.ref a), .val (.int (3 : Int32)), .val (.ref b), .val (.int (3 : Int32)), .val (.int (3 : Int32)), .val (.int (3 : Int32)), .val (.int c2)] [(.int (3 : Int32))]))
  refine OGets.step (fun _ => XS.iload X313.here hx rfl (hb hby dj52m21_5) rfl) ?_
  refine OGets.step (fun _ => XS.icmpYes X313.here hx rfl (pc0 := 7) (pc' := 44) rfl (hb hby dj52m21_7) rfl (flt (by decide : ¬ ((3 : Int32) < (3 : Int32)))).2.1 (by decide) (by decide)) ?_
  refine OGets.step (fun _ => XS.iload X313.here hx rfl (hb hby dj52m21_44) rfl) ?_
  refine OGets.retI X313 hx hlk Bd.returns (hb hby dj52m21_46) (Nat.le_of_ble_eq_true rfl) (Nat.le_of_ble_eq_true rfl) ?_
  rw [e313]
  exact ⟨rfl, N313, V313, O313⟩
theorem ef_c3_33 (m : MethodId) (x0 : Addr) (x1 : Int32) (x2 : Int32) : entryFrame m #[(.ref x0), (.int x1), (.int x2)] 6 = mkF m 0 #[.val (.ref x0), .val (.int x1), .val (.int x2), .unset, .unset, .unset] [] := by first | (simp [entryFrame, mkF, argsToLocals, Value.category]; done) | rfl
def Q_c3_33 (Z : State) (a : Addr) (c0 : Int32) (c1 : Int32) (c2 : Int32) (h0 : Heap) (n0 : Nat) (F : List (Addr × OObj)) (v : Option Value) (h : Heap) (L : List Loc) : Prop := ∃ b : Addr, v = some (.ref b) ∧ Fr n0 L ∧ OView Z n0 h (((b, Sum.inr (.byte, [(.int (yb c0)), (.int (yb c1)), (.int (yb c2))])) : Addr × OObj) :: ((a, Sum.inr (.char, [(.int c0), (.int c1), (.int c2)])) : Addr × OObj) :: F) ∧ Old Z n0 h
set_option maxRecDepth 65536 in
set_option maxHeartbeats 40000000 in
theorem rm_c3_33 (l : Launch) (Z : State) (a0 : Array Value) (hw : ∀ d ∈ tables_1, d.before a0 Z = true) (ws : List Jvm.Cond) (a : Addr) (c0 : Int32) (c1 : Int32) (c2 : Int32) (h0 : Heap) (n0 : Nat) (F : List (Addr × OObj)) (Z0 : n0 ≤ h0.size) (SA : Sta Z Z.heap "java/lang/StringUTF16" "$assertionsDisabled" "Z" (.int (1 : Int32))) (SH : Sta Z Z.heap "java/lang/StringUTF16" "HI_BYTE_SHIFT" "I" (.int (0 : Int32))) (SL : Sta Z Z.heap "java/lang/StringUTF16" "LO_BYTE_SHIFT" "I" (.int (8 : Int32))) (u0 : ¬ (255 : Int32) < c0) (u1 : ¬ (255 : Int32) < c1) (u2 : ¬ (255 : Int32) < c2) (V0 : OView Z n0 h0 (((a, Sum.inr (.char, [(.int c0), (.int c1), (.int c2)])) : Addr × OObj) :: F)) (O0 : Old Z n0 h0) :
    MetFree l (⟨"java/lang/StringUTF16", "compress", "([CII)[B"⟩ : MethodName) (head1 (Jvm.Cond.code (⟨"java/lang/StringUTF16", "compress", "([CII)[B"⟩ : MethodName) jdk_52_method_16_code 6 (some (.array .byte)) :: ws) ({ frames := 1, cells := 1, slots := 3, locals := 18 } : Room)) (fun a_ U => a_ = #[(.ref a), (.int (0 : Int32)), (.int (3 : Int32))] ∧ Z.Warmed39 U.vm ∧ U.heap = h0) (fun _ _ _ _ _ => True) (fun _ U o U' => ∃ v L, o = .returned v ∧ Q_c3_33 Z a c0 c1 c2 h0 n0 F v U'.heap L ∧ FrameEnd U o U' L ({ frames := 1, cells := 1, slots := 3, locals := 18 } : Room).cells ({ frames := 1, cells := 1, slots := 3, locals := 18 } : Room).slots) := by
  refine MetFree.of_bodySF (plainFor_of_name pn_1) hisR ?_
  intro p e s m args below meth c s₁ Bd hml0 hP hK
  obtain ⟨rfl, hZ, hh⟩ := hP
  have hx := Bd.exec
  have hby := Bd.bytes
  have hlk : meth.locks = false := Bd.notSynchronized
  have hml : c.maxLocals = 6 := hml0
  have hown : s.vm.findClass "java/lang/StringUTF16" = some m.cls := findClass_of_methodNamed Bd.named
  have hnm := (name_of_methodNamed Bd.named Bd.method).1
  have X0 : Stand p l e ({ frames := 1, cells := 1, slots := 3, locals := 18 } : Room) s m #[(.ref a), (.int (0 : Int32)), (.int (3 : Int32))] below meth c s₁ [] 0 0 := Stand.of_body Bd
  have e0 : s₁.heap = h0 := by rw [← hh, Bd.state]; rfl
  have N0 := Fr.nil n0
  show OGets p e below (OLeaves s (Q_c3_33 Z a c0 c1 c2 h0 n0 F ) ({ frames := 1, cells := 1, slots := 3, locals := 18 } : Room).cells ({ frames := 1, cells := 1, slots := 3, locals := 18 } : Room).slots) _
  refine OGets.enter (ef_c3_33 m a (0 : Int32) (3 : Int32)) ?_
  show OGets p e below _ (s₁.setTop (mkF m 0 #[.val (.ref a), .val (.int (0 : Int32)), .val (.int (3 : Int32)), .unset, .unset, .unset] []))
  refine OGets.step (fun _ => XS.iloadN X0.here hx rfl (hb hby dj52m16_0) rfl) ?_
  obtain ⟨T315, h315, k315, X315, e315, E315, A315, st315⟩ := newP X0 hx hZ (hw _ (List.mem_of_getElem? (i := 21) rfl)) e0 (g := (mkF m 1 #[.val (.ref a), .val (.int (0 : Int32)), .val (.int (3 : Int32)), .unset, .unset, .unset] [(.int (3 : Int32))])) rfl (hb hby dj52m16_1) rfl (by decide) (cap := 3) (by decide) (by decide) (by decide) (by decide)
  have V315' := V0.newArr Z0 E315 A315 3 rfl
  have Z315 : n0 ≤ h315.size := Nat.le_trans Z0 E315.1
  obtain ⟨b315, g315⟩ : ∃ z, z = h0.size := ⟨_, rfl⟩
  rw [← g315] at V315' st315
  have V315 : OView Z n0 h315 (((b315, Sum.inr (.byte, [(.int (0 : Int32)), (.int (0 : Int32)), (.int (0 : Int32))])) : Addr × OObj) :: ((a, Sum.inr (.char, [(.int c0), (.int c1), (.int c2)])) : Addr × OObj) :: F) := V315'
  have O315 := O0.ext E315
  refine OGets.step st315 ?_
  refine OGets.step (fun _ => XS.astoreN X315.here hx rfl (hb hby dj52m16_3) rfl rfl (l' := #[.val (.ref a), .val (.int (0 : Int32)), .val (.int (3 : Int32)), .val (.ref b315), .unset, .unset]) rfl) ?_
  refine OGets.step (fun _ => XS.aloadN X315.here hx rfl (hb hby dj52m16_4) rfl rfl) ?_
  refine OGets.step (fun _ => XS.iloadN X315.here hx rfl (hb hby dj52m16_5) rfl) ?_
  refine OGets.step (fun _ => XS.aloadN X315.here hx rfl (hb hby dj52m16_6) rfl rfl) ?_
  refine OGets.step (fun _ => XS.iconst X315.here hx rfl (hb hby dj52m16_7)) ?_
  show OGets p e below _ (T315.setTop (mkF m 8 #[.val (.ref a), .val (.int (0 : Int32)), .val (.int (3 : Int32)), .val (.ref b315), .unset, .unset] [(.int (0 : Int32)), (.ref b315), (.int (0 : Int32)), (.ref a)]))
  refine OGets.step (fun _ => XS.iloadN X315.here hx rfl (hb hby dj52m16_8) rfl) ?_
  have V316_ : OView Z _ h315 (((a, Sum.inr (.char, [(.int c0), (.int c1), (.int c2)])) : Addr × OObj) :: ((b315, Sum.inr (.byte, [(.int (0 : Int32)), (.int (0 : Int32)), (.int (0 : Int32))])) : Addr × OObj) :: F) := (V315.bring 1 rfl)
  obtain ⟨_, _, ⟨T316, L316, k316, n316⟩, -, X316, ⟨Lc316, hQ316, l316, y316, z316⟩, st316⟩ := Jvm.LawKit.callS X315 hx (y := (⟨"java/lang/StringUTF16", "compress", "([CI[BII)I"⟩ : MethodName)) hown (mvT hZ (hw _ (List.mem_of_getElem? (i := 49) rfl))) (mvT hZ (hw _ (List.mem_of_getElem? (i := 50) rfl))) (mvT hZ (hw _ (List.mem_of_getElem? (i := 47) rfl))) (mvT hZ (hw _ (List.mem_of_getElem? (i := 51) rfl))) (by decide) (backOf (W := 0) (rm_c5_33 l Z a0 hw [] a b315 c0 c1 c2 h315 n0 _ Z315 u0 u1 u2 V316_ O315) hZ (hw _ (List.mem_of_getElem? (i := 51) rfl)) (hw _ (List.mem_of_getElem? (i := 47) rfl)) (by decide) (by decide)) (g := (mkF m 9 #[.val (.ref a), .val (.int (0 : Int32)), .val (.int (3 : Int32)), .val (.ref b315), .unset, .unset] [(.int (3 : Int32)), (.int (0 : Int32)), (.ref b315), (.int (0 : Int32)), (.ref a)])) rfl (by rw [hml]; rfl) (argsL := [(.ref a), (.int (0 : Int32)), (.ref b315), (.int (0 : Int32)), (.int (3 : Int32))]) (rest := []) (lenOf pd_5 rfl) rfl (by show 2 * 0 + _ ≤ _; exact Nat.le_of_eq rfl) (hb hby dj52m16_9) (fun _ _ => ⟨rfl, e315, Nat.le_of_ble_eq_true rfl, Nat.le_of_ble_eq_true rfl⟩)
  dsimp only [Pt.U, Pt.locs, Pt.cells, Pt.slots] at X316 l316 y316 z316 st316 hQ316
  rw [l316, y316, z316] at X316
  obtain ⟨rfl, N316q, V316, O316q⟩ := hQ316
  have N316 := Fr.app N0 N316q
  have V316v : OView Z n0 T316.heap (((a, Sum.inr (.char, [(.int c0), (.int c1), (.int c2)])) : Addr × OObj) :: ((b315, Sum.inr (.byte, [(.int (yb c0)), (.int (yb c1)), (.int (yb c2))])) : Addr × OObj) :: F) := V316
  have Z316 : n0 ≤ T316.heap.size := V316v.big 0 rfl
  refine OGets.step st316 ?_
  refine OGets.step (fun _ => XS.istore X316.here hx rfl (hb hby dj52m16_12) rfl (l' := #[.val (.ref a), .val (.int (0 : Int32)), .val (.int (3 : Int32)), .val (.ref b315), .val (.int (3 : Int32)), .unset]) rfl) ?_
  refine OGets.step (fun _ => XS.iload X316.here hx rfl (hb hby dj52m16_14) rfl) ?_
  refine OGets.step (fun _ => XS.iloadN X316.here hx rfl (hb hby dj52m16_16) rfl) ?_
  refine OGets.step (fun _ => XS.icmpYes X316.here hx rfl (pc0 := 17) (pc' := 57) rfl (hb hby dj52m16_17) rfl (teq (by decide : (3 : Int32) = (3 : Int32))).1 (by decide) (by decide)) ?_
  refine OGets.step (fun _ => XS.aloadN X316.here hx rfl (hb hby dj52m16_57) rfl rfl) ?_
  show OGets p e below _ (T316.setTop (mkF m 58 #[.val (.ref a), .val (.int (0 : Int32)), .val (.int (3 : Int32)), .val (.ref b315), .val (.int (3 : Int32)), .unset] [(.ref b315)]))
  refine OGets.retA X316 hx hlk (t := (.array .byte)) Bd.returns rfl rfl rfl (hb hby dj52m16_58) (Nat.le_of_ble_eq_true rfl) (Nat.le_of_ble_eq_true rfl) ?_
  have Vp318 : OView Z _ T316.heap (((b315, Sum.inr (.byte, [(.int (yb c0)), (.int (yb c1)), (.int (yb c2))])) : Addr × OObj) :: ((a, Sum.inr (.char, [(.int c0), (.int c1), (.int c2)])) : Addr × OObj) :: F) := (V316v.bring 1 rfl)
  exact ⟨b315, rfl, N316, Vp318, O316q⟩
theorem ef_i4_33 (m : MethodId) (x0 : Addr) (x1 : Addr) (x2 : Int32) (x3 : Int32) : entryFrame m #[(.ref x0), (.ref x1), (.int x2), (.int x3), .null] 6 = mkF m 0 #[.val (.ref x0), .val (.ref x1), .val (.int x2), .val (.int x3), .val .null, .unset] [] := by first | (simp [entryFrame, mkF, argsToLocals, Value.category]; done) | rfl
def Q_i4_33 (Z : State) (a : Addr) (q : Addr) (G : Int32) (c0 : Int32) (c1 : Int32) (c2 : Int32) (h0 : Heap) (n0 : Nat) (F : List (Addr × OObj)) (v : Option Value) (h : Heap) (L : List Loc) : Prop := v = none ∧ Fr n0 L ∧ ∃ b : Addr, OView Z n0 h (((a, Sum.inl ("java/lang/String", ns_String, [(.ref b), (.int (0 : Int32))])) : Addr × OObj) :: ((b, Sum.inr (.byte, [(.int (yb c0)), (.int (yb c1)), (.int (yb c2))])) : Addr × OObj) :: ((q, Sum.inr (.char, [(.int c0), (.int c1), (.int c2)])) : Addr × OObj) :: F) ∧ Old Z n0 h
set_option maxRecDepth 65536 in
set_option maxHeartbeats 40000000 in
theorem rm_i4_33 (l : Launch) (Z : State) (a0 : Array Value) (hw : ∀ d ∈ tables_1, d.before a0 Z = true) (ws : List Jvm.Cond) (a : Addr) (q : Addr) (G : Int32) (c0 : Int32) (c1 : Int32) (c2 : Int32) (h0 : Heap) (n0 : Nat) (F : List (Addr × OObj)) (Z0 : n0 ≤ h0.size) (S0 : Sta Z Z.heap "java/lang/String" "COMPACT_STRINGS" "Z" (.int G)) (hG : ¬ G = (0 : Int32)) (SA : Sta Z Z.heap "java/lang/StringUTF16" "$assertionsDisabled" "Z" (.int (1 : Int32))) (SH : Sta Z Z.heap "java/lang/StringUTF16" "HI_BYTE_SHIFT" "I" (.int (0 : Int32))) (SL : Sta Z Z.heap "java/lang/StringUTF16" "LO_BYTE_SHIFT" "I" (.int (8 : Int32))) (u0 : ¬ (255 : Int32) < c0) (u1 : ¬ (255 : Int32) < c1) (u2 : ¬ (255 : Int32) < c2) (V0 : OView Z n0 h0 (((a, Sum.inl ("java/lang/String", ns_String, [.null, (.int (0 : Int32))])) : Addr × OObj) :: ((q, Sum.inr (.char, [(.int c0), (.int c1), (.int c2)])) : Addr × OObj) :: F)) (O0 : Old Z n0 h0) :
    MetFree l (⟨"java/lang/String", "<init>", "([CIILjava/lang/Void;)V"⟩ : MethodName) (head1 (Jvm.Cond.code (⟨"java/lang/String", "<init>", "([CIILjava/lang/Void;)V"⟩ : MethodName) jdk_42_method_149_code 6 none :: ws) ({ frames := 2, cells := 1, slots := 3, locals := 35 } : Room)) (fun a_ U => a_ = #[(.ref a), (.ref q), (.int (0 : Int32)), (.int (3 : Int32)), .null] ∧ Z.Warmed39 U.vm ∧ U.heap = h0) (fun _ _ _ _ _ => True) (fun _ U o U' => ∃ v L, o = .returned v ∧ Q_i4_33 Z a q G c0 c1 c2 h0 n0 F v U'.heap L ∧ FrameEnd U o U' L ({ frames := 2, cells := 1, slots := 3, locals := 35 } : Room).cells ({ frames := 2, cells := 1, slots := 3, locals := 35 } : Room).slots) := by
  refine MetFree.of_bodySF (plainFor_of_name pn_8) hisR ?_
  intro p e s m args below meth c s₁ Bd hml0 hP hK
  obtain ⟨rfl, hZ, hh⟩ := hP
  have hx := Bd.exec
  have hby := Bd.bytes
  have hlk : meth.locks = false := Bd.notSynchronized
  have hml : c.maxLocals = 6 := hml0
  have hown : s.vm.findClass "java/lang/String" = some m.cls := findClass_of_methodNamed Bd.named
  have hnm := (name_of_methodNamed Bd.named Bd.method).1
  have X0 : Stand p l e ({ frames := 2, cells := 1, slots := 3, locals := 35 } : Room) s m #[(.ref a), (.ref q), (.int (0 : Int32)), (.int (3 : Int32)), .null] below meth c s₁ [] 0 0 := Stand.of_body Bd
  have e0 : s₁.heap = h0 := by rw [← hh, Bd.state]; rfl
  have N0 := Fr.nil n0
  show OGets p e below (OLeaves s (Q_i4_33 Z a q G c0 c1 c2 h0 n0 F ) ({ frames := 2, cells := 1, slots := 3, locals := 35 } : Room).cells ({ frames := 2, cells := 1, slots := 3, locals := 35 } : Room).slots) _
  refine OGets.enter (ef_i4_33 m a q (0 : Int32) (3 : Int32)) ?_
  show OGets p e below _ (s₁.setTop (mkF m 0 #[.val (.ref a), .val (.ref q), .val (.int (0 : Int32)), .val (.int (3 : Int32)), .val .null, .unset] []))
  refine OGets.step (fun _ => XS.aloadN X0.here hx rfl (hb hby dj42m149_0) rfl rfl) ?_
  obtain ⟨T319, X319, e319, st319⟩ := initO X0 hx hZ hown (hw _ (List.mem_of_getElem? (i := 17) rfl)) (hw _ (List.mem_of_getElem? (i := 18) rfl)) (hw _ (List.mem_of_getElem? (i := 19) rfl)) e0 (g := (mkF m 1 #[.val (.ref a), .val (.ref q), .val (.int (0 : Int32)), .val (.int (3 : Int32)), .val .null, .unset] [(.ref a)])) rfl (by rw [hml]; rfl) rfl (hb hby dj42m149_1) (by decide) (W := 0) (by show 2 * 0 + _ ≤ _; exact Nat.le_of_eq rfl) (by decide)
  refine OGets.step st319 ?_
  refine OGets.step (fun _ => XS.iloadN X319.here hx rfl (hb hby dj42m149_4) rfl) ?_
  refine OGets.step (fun _ => XS.ifYes X319.here hx rfl (pc0 := 5) (pc' := 27) rfl (hb hby dj42m149_5) rfl ((if0 _ _).trans (feq (by decide : ¬ ((3 : Int32) = (0 : Int32)))).2) (by decide) (by decide)) ?_
  obtain ⟨T321, X321, e321, st321⟩ := getS2 X319 hx hZ hown (host := "") (Or.inl (hw _ (List.mem_of_getElem? (i := 39) rfl))) Via.refl e319 (S0.ext O0.2) (g := (mkF m 27 #[.val (.ref a), .val (.ref q), .val (.int (0 : Int32)), .val (.int (3 : Int32)), .val .null, .unset] [])) rfl (hb hby dj42m149_27)
  refine OGets.step st321 ?_
  refine OGets.step (fun _ => XS.ifNo X321.here hx rfl (hb hby dj42m149_30) rfl ((if0 _ _).trans (feq (hG : ¬ (G = (0 : Int32)))).1)) ?_
  refine OGets.step (fun _ => XS.aloadN X321.here hx rfl (hb hby dj42m149_33) rfl rfl) ?_
  refine OGets.step (fun _ => XS.iloadN X321.here hx rfl (hb hby dj42m149_34) rfl) ?_
  refine OGets.step (fun _ => XS.iloadN X321.here hx rfl (hb hby dj42m149_35) rfl) ?_
  have V323_ : OView Z _ h0 (((q, Sum.inr (.char, [(.int c0), (.int c1), (.int c2)])) : Addr × OObj) :: ((a, Sum.inl ("java/lang/String", ns_String, [.null, (.int (0 : Int32))])) : Addr × OObj) :: F) := (V0.bring 1 rfl)
  obtain ⟨_, _, ⟨T323, L323, k323, n323⟩, -, X323, ⟨Lc323, hQ323, l323, y323, z323⟩, st323⟩ := Jvm.LawKit.callS X321 hx (y := (⟨"java/lang/StringUTF16", "compress", "([CII)[B"⟩ : MethodName)) hown (mvT hZ (hw _ (List.mem_of_getElem? (i := 45) rfl))) (mvT hZ (hw _ (List.mem_of_getElem? (i := 46) rfl))) (mvT hZ (hw _ (List.mem_of_getElem? (i := 47) rfl))) (mvT hZ (hw _ (List.mem_of_getElem? (i := 48) rfl))) (by decide) (backOf (W := 0) (rm_c3_33 l Z a0 hw [] q c0 c1 c2 h0 n0 _ Z0 SA SH SL u0 u1 u2 V323_ O0) hZ (hw _ (List.mem_of_getElem? (i := 48) rfl)) (hw _ (List.mem_of_getElem? (i := 47) rfl)) (by decide) (by decide)) (g := (mkF m 36 #[.val (.ref a), .val (.ref q), .val (.int (0 : Int32)), .val (.int (3 : Int32)), .val .null, .unset] [(.int (3 : Int32)), (.int (0 : Int32)), (.ref q)])) rfl (by rw [hml]; rfl) (argsL := [(.ref q), (.int (0 : Int32)), (.int (3 : Int32))]) (rest := []) (lenOf pd_6 rfl) rfl (by show 2 * 0 + _ ≤ _; exact Nat.le_of_eq rfl) (hb hby dj42m149_36) (fun _ _ => ⟨rfl, e321, Nat.le_of_ble_eq_true rfl, Nat.le_of_ble_eq_true rfl⟩)
  dsimp only [Pt.U, Pt.locs, Pt.cells, Pt.slots] at X323 l323 y323 z323 st323 hQ323
  rw [l323, y323, z323] at X323
  obtain ⟨b323, rfl, N323q, V323, O323q⟩ := hQ323
  have N323 := Fr.app N0 N323q
  have V323v : OView Z n0 T323.heap (((b323, Sum.inr (.byte, [(.int (yb c0)), (.int (yb c1)), (.int (yb c2))])) : Addr × OObj) :: ((q, Sum.inr (.char, [(.int c0), (.int c1), (.int c2)])) : Addr × OObj) :: ((a, Sum.inl ("java/lang/String", ns_String, [.null, (.int (0 : Int32))])) : Addr × OObj) :: F) := V323
  have Z323 : n0 ≤ T323.heap.size := V323v.big 0 rfl
  refine OGets.step st323 ?_
  refine OGets.step (fun _ => XS.astore X323.here hx rfl (hb hby dj42m149_39) rfl rfl (l' := #[.val (.ref a), .val (.ref q), .val (.int (0 : Int32)), .val (.int (3 : Int32)), .val .null, .val (.ref b323)]) rfl) ?_
  refine OGets.step (fun _ => XS.aloadN X323.here hx rfl (hb hby dj42m149_41) rfl rfl) ?_
  refine OGets.step (fun _ => XS.aload X323.here hx rfl (hb hby dj42m149_42) rfl rfl) ?_
  refine OGets.step (fun _ => XS.iloadN X323.here hx rfl (hb hby dj42m149_44) rfl) ?_
  obtain ⟨_, _, ⟨T324, L324, k324, n324⟩, -, X324, ⟨Lc324, hQ324, l324, y324, z324⟩, st324⟩ := Jvm.LawKit.callS X323 hx (y := (⟨"java/lang/StringUTF16", "coderFromArrayLen", "([BI)B"⟩ : MethodName)) hown (mvT hZ (hw _ (List.mem_of_getElem? (i := 52) rfl))) (mvT hZ (hw _ (List.mem_of_getElem? (i := 53) rfl))) (mvT hZ (hw _ (List.mem_of_getElem? (i := 47) rfl))) (mvT hZ (hw _ (List.mem_of_getElem? (i := 54) rfl))) (by decide) (backOf (W := 1) (rm_cfl30 l Z a0 hw [] b323 (yb c0) (yb c1) (yb c2) T323.heap n0 _ Z323  V323v) hZ (hw _ (List.mem_of_getElem? (i := 54) rfl)) (hw _ (List.mem_of_getElem? (i := 47) rfl)) (by decide) (by decide)) (g := (mkF m 45 #[.val (.ref a), .val (.ref q), .val (.int (0 : Int32)), .val (.int (3 : Int32)), .val .null, .val (.ref b323)] [(.int (3 : Int32)), (.ref b323), (.ref a)])) rfl (by rw [hml]; rfl) (argsL := [(.ref b323), (.int (3 : Int32))]) (rest := [(.ref a)]) (lenOf pd_9 rfl) rfl (by show 2 * 0 + _ ≤ _; exact Nat.le_of_eq rfl) (hb hby dj42m149_45) (fun _ _ => ⟨rfl, rfl, Nat.le_of_ble_eq_true rfl, Nat.le_of_ble_eq_true rfl⟩)
  dsimp only [Pt.U, Pt.locs, Pt.cells, Pt.slots] at X324 l324 y324 z324 st324 hQ324
  rw [l324, y324, z324] at X324
  obtain ⟨rfl, rfl, e324⟩ := hQ324
  have N324 := Fr.app N323 (Fr.nil n0)
  refine OGets.step st324 ?_
  obtain ⟨T325, h325, X325, e325, W325, st325⟩ := putFN X324 hx hZ hown (hw _ (List.mem_of_getElem? (i := 27) rfl)) Via.refl e324 (V323v.fld 2 rfl 1 rfl rfl) (V323v.exa 2 rfl) (Or.inr ⟨(hw _ (List.mem_of_getElem? (i := 23) rfl)), rfl, hnm⟩) (hw _ (List.mem_of_getElem? (i := 7) rfl)) (ty := .byte) (v' := (.int (0 : Int32))) (by decide) rfl (by decide) (g := (mkF m 48 #[.val (.ref a), .val (.ref q), .val (.int (0 : Int32)), .val (.int (3 : Int32)), .val .null, .val (.ref b323)] [(.int (0 : Int32)), (.ref a)])) rfl rfl (hb hby dj42m149_48)
  have V325 : OView Z n0 h325 (((b323, Sum.inr (.byte, [(.int (yb c0)), (.int (yb c1)), (.int (yb c2))])) : Addr × OObj) :: ((q, Sum.inr (.char, [(.int c0), (.int c1), (.int c2)])) : Addr × OObj) :: ((a, Sum.inl ("java/lang/String", ns_String, [.null, (.int (0 : Int32))])) : Addr × OObj) :: F) := V323v.putF 2 rfl 1 rfl W325
  have N325 := Fr.snoc X325 N324 (V323v.old 2 rfl)
  have Z325 : n0 ≤ h325.size := by rw [W325.size]; exact Z323
  have O325 := O323q.wr W325 (V323v.old 2 rfl)
  refine OGets.step st325 ?_
  refine OGets.step (fun _ => XS.aloadN X325.here hx rfl (hb hby dj42m149_51) rfl rfl) ?_
  refine OGets.step (fun _ => XS.aload X325.here hx rfl (hb hby dj42m149_52) rfl rfl) ?_
  obtain ⟨T326, h326, X326, e326, W326, st326⟩ := putF X325 hx hZ hown (host := "") (Or.inl (hw _ (List.mem_of_getElem? (i := 26) rfl))) Via.refl e325 (V325.fld 2 rfl 0 rfl rfl) (V325.exa 2 rfl) (Or.inr ⟨(hw _ (List.mem_of_getElem? (i := 22) rfl)), rfl, hnm⟩) (hw _ (List.mem_of_getElem? (i := 7) rfl)) (ty := (.array .byte)) (by decide) rfl rfl (g := (mkF m 54 #[.val (.ref a), .val (.ref q), .val (.int (0 : Int32)), .val (.int (3 : Int32)), .val .null, .val (.ref b323)] [(.ref b323), (.ref a)])) rfl rfl (hb hby dj42m149_54)
  have V326 : OView Z n0 h326 (((b323, Sum.inr (.byte, [(.int (yb c0)), (.int (yb c1)), (.int (yb c2))])) : Addr × OObj) :: ((q, Sum.inr (.char, [(.int c0), (.int c1), (.int c2)])) : Addr × OObj) :: ((a, Sum.inl ("java/lang/String", ns_String, [(.ref b323), (.int (0 : Int32))])) : Addr × OObj) :: F) := V325.putF 2 rfl 0 rfl W326
  have N326 := Fr.snoc X326 N325 (V325.old 2 rfl)
  have Z326 : n0 ≤ h326.size := by rw [W326.size]; exact Z325
  have O326 := O325.wr W326 (V325.old 2 rfl)
  refine OGets.step st326 ?_
  refine OGets.retV X326 hx hlk Bd.returns (hb hby dj42m149_57) (Nat.le_of_ble_eq_true rfl) (Nat.le_of_ble_eq_true rfl) ?_
  have Vp327 : OView Z _ h326 (((a, Sum.inl ("java/lang/String", ns_String, [(.ref b323), (.int (0 : Int32))])) : Addr × OObj) :: ((b323, Sum.inr (.byte, [(.int (yb c0)), (.int (yb c1)), (.int (yb c2))])) : Addr × OObj) :: ((q, Sum.inr (.char, [(.int c0), (.int c1), (.int c2)])) : Addr × OObj) :: F) := (V326.bring 2 rfl)
  rw [e326]
  exact ⟨rfl, N326, b323, Vp327, O326⟩
theorem ef_i1_33 (m : MethodId) (x0 : Addr) (x1 : Addr) : entryFrame m #[(.ref x0), (.ref x1)] 2 = mkF m 0 #[.val (.ref x0), .val (.ref x1)] [] := by first | (simp [entryFrame, mkF, argsToLocals, Value.category]; done) | rfl
def Q_i1_33 (Z : State) (a : Addr) (q : Addr) (G : Int32) (c0 : Int32) (c1 : Int32) (c2 : Int32) (h0 : Heap) (n0 : Nat) (F : List (Addr × OObj)) (v : Option Value) (h : Heap) (L : List Loc) : Prop := v = none ∧ Fr n0 L ∧ ∃ b : Addr, OView Z n0 h (((a, Sum.inl ("java/lang/String", ns_String, [(.ref b), (.int (0 : Int32))])) : Addr × OObj) :: ((b, Sum.inr (.byte, [(.int (yb c0)), (.int (yb c1)), (.int (yb c2))])) : Addr × OObj) :: ((q, Sum.inr (.char, [(.int c0), (.int c1), (.int c2)])) : Addr × OObj) :: F) ∧ Old Z n0 h
set_option maxRecDepth 65536 in
set_option maxHeartbeats 40000000 in
theorem rm_i1_33 (l : Launch) (Z : State) (a0 : Array Value) (hw : ∀ d ∈ tables_1, d.before a0 Z = true) (ws : List Jvm.Cond) (a : Addr) (q : Addr) (G : Int32) (c0 : Int32) (c1 : Int32) (c2 : Int32) (h0 : Heap) (n0 : Nat) (F : List (Addr × OObj)) (Z0 : n0 ≤ h0.size) (S0 : Sta Z Z.heap "java/lang/String" "COMPACT_STRINGS" "Z" (.int G)) (hG : ¬ G = (0 : Int32)) (SA : Sta Z Z.heap "java/lang/StringUTF16" "$assertionsDisabled" "Z" (.int (1 : Int32))) (SH : Sta Z Z.heap "java/lang/StringUTF16" "HI_BYTE_SHIFT" "I" (.int (0 : Int32))) (SL : Sta Z Z.heap "java/lang/StringUTF16" "LO_BYTE_SHIFT" "I" (.int (8 : Int32))) (u0 : ¬ (255 : Int32) < c0) (u1 : ¬ (255 : Int32) < c1) (u2 : ¬ (255 : Int32) < c2) (V0 : OView Z n0 h0 (((a, Sum.inl ("java/lang/String", ns_String, [.null, (.int (0 : Int32))])) : Addr × OObj) :: ((q, Sum.inr (.char, [(.int c0), (.int c1), (.int c2)])) : Addr × OObj) :: F)) (O0 : Old Z n0 h0) :
    MetFree l (⟨"java/lang/String", "<init>", "([C)V"⟩ : MethodName) (head1 (Jvm.Cond.code (⟨"java/lang/String", "<init>", "([C)V"⟩ : MethodName) jdk_42_method_3_code 2 none :: ws) ({ frames := 3, cells := 1, slots := 3, locals := 52 } : Room)) (fun a_ U => a_ = #[(.ref a), (.ref q)] ∧ Z.Warmed39 U.vm ∧ U.heap = h0) (fun _ _ _ _ _ => True) (fun _ U o U' => ∃ v L, o = .returned v ∧ Q_i1_33 Z a q G c0 c1 c2 h0 n0 F v U'.heap L ∧ FrameEnd U o U' L ({ frames := 3, cells := 1, slots := 3, locals := 52 } : Room).cells ({ frames := 3, cells := 1, slots := 3, locals := 52 } : Room).slots) := by
  refine MetFree.of_bodySF (plainFor_of_name pn_8) hisR ?_
  intro p e s m args below meth c s₁ Bd hml0 hP hK
  obtain ⟨rfl, hZ, hh⟩ := hP
  have hx := Bd.exec
  have hby := Bd.bytes
  have hlk : meth.locks = false := Bd.notSynchronized
  have hml : c.maxLocals = 2 := hml0
  have hown : s.vm.findClass "java/lang/String" = some m.cls := findClass_of_methodNamed Bd.named
  have hnm := (name_of_methodNamed Bd.named Bd.method).1
  have X0 : Stand p l e ({ frames := 3, cells := 1, slots := 3, locals := 52 } : Room) s m #[(.ref a), (.ref q)] below meth c s₁ [] 0 0 := Stand.of_body Bd
  have e0 : s₁.heap = h0 := by rw [← hh, Bd.state]; rfl
  have N0 := Fr.nil n0
  show OGets p e below (OLeaves s (Q_i1_33 Z a q G c0 c1 c2 h0 n0 F ) ({ frames := 3, cells := 1, slots := 3, locals := 52 } : Room).cells ({ frames := 3, cells := 1, slots := 3, locals := 52 } : Room).slots) _
  refine OGets.enter (ef_i1_33 m a q) ?_
  show OGets p e below _ (s₁.setTop (mkF m 0 #[.val (.ref a), .val (.ref q)] []))
  refine OGets.step (fun _ => XS.aloadN X0.here hx rfl (hb hby dj42m3_0) rfl rfl) ?_
  refine OGets.step (fun _ => XS.aloadN X0.here hx rfl (hb hby dj42m3_1) rfl rfl) ?_
  refine OGets.step (fun _ => XS.iconst X0.here hx rfl (hb hby dj42m3_2)) ?_
  refine OGets.step (fun _ => XS.aloadN X0.here hx rfl (hb hby dj42m3_3) rfl rfl) ?_
  obtain ⟨cl328, Ar328, S328⟩ := V0.arr 1 rfl
  have ln328 : cl328.slots.size.toInt32 = (3 : Int32) := by rw [own_len S328]; rfl
  refine OGets.step (U' := s₁.setTop (mkF m 5 #[.val (.ref a), .val (.ref q)] [(.int (3 : Int32)), (.int (0 : Int32)), (.ref q), (.ref a)])) (fun t kt => ?_) ?_
  · refine X0.arraylength hx (by rw [e0]; exact Ar328.1) (State.isArrayOf_alike hZ.alike Ar328.2.1) (g := (mkF m 4 #[.val (.ref a), .val (.ref q)] [(.ref q), (.int (0 : Int32)), (.ref q), (.ref a)])) rfl rfl (hb hby dj42m3_4) _ ?_
    rw [ln328]; exact kt
  refine OGets.step (fun _ => XS.aconstNull X0.here hx rfl (hb hby dj42m3_5)) ?_
  show OGets p e below _ (s₁.setTop (mkF m 6 #[.val (.ref a), .val (.ref q)] [.null, (.int (3 : Int32)), (.int (0 : Int32)), (.ref q), (.ref a)]))
  obtain ⟨_, _, ⟨T329, L329, k329, n329⟩, -, X329, ⟨Lc329, hQ329, l329, y329, z329⟩, st329⟩ := X0.specialBack hx (y := (⟨"java/lang/String", "<init>", "([CIILjava/lang/Void;)V"⟩ : MethodName)) rfl hown (mvT hZ (hw _ (List.mem_of_getElem? (i := 13) rfl))) (mvT hZ (hw _ (List.mem_of_getElem? (i := 14) rfl))) (mvT hZ (hw _ (List.mem_of_getElem? (i := 16) rfl))) (by decide) (backOf (W := 0) (rm_i4_33 l Z a0 hw [] a q G c0 c1 c2 h0 n0 _ Z0 S0 hG SA SH SL u0 u1 u2 V0 O0) hZ (hw _ (List.mem_of_getElem? (i := 16) rfl)) (hw _ (List.mem_of_getElem? (i := 8) rfl)) (by decide) (by decide)) (g := (mkF m 6 #[.val (.ref a), .val (.ref q)] [.null, (.int (3 : Int32)), (.int (0 : Int32)), (.ref q), (.ref a)])) rfl (by rw [hml]; rfl) (Steps.refl _) (a := a) (argsL := [(.ref q), (.int (0 : Int32)), (.int (3 : Int32)), .null]) (rest := []) (lenOf pd_10 rfl) rfl (by show 2 * 0 + _ ≤ _; exact Nat.le_of_eq rfl) (hb hby dj42m3_6) (fun _ _ => ⟨rfl, e0, Nat.le_of_ble_eq_true rfl, Nat.le_of_ble_eq_true rfl⟩)
  dsimp only [Pt.U, Pt.locs, Pt.cells, Pt.slots] at X329 l329 y329 z329 st329 hQ329
  rw [l329, y329, z329] at X329
  obtain ⟨rfl, N329q, b329, V329, O329q⟩ := hQ329
  have N329 := Fr.app N0 N329q
  have V329v : OView Z n0 T329.heap (((a, Sum.inl ("java/lang/String", ns_String, [(.ref b329), (.int (0 : Int32))])) : Addr × OObj) :: ((b329, Sum.inr (.byte, [(.int (yb c0)), (.int (yb c1)), (.int (yb c2))])) : Addr × OObj) :: ((q, Sum.inr (.char, [(.int c0), (.int c1), (.int c2)])) : Addr × OObj) :: F) := V329
  have Z329 : n0 ≤ T329.heap.size := V329v.big 0 rfl
  refine OGets.after st329 ?_
  refine OGets.retV X329 hx hlk Bd.returns (hb hby dj42m3_9) (Nat.le_of_ble_eq_true rfl) (Nat.le_of_ble_eq_true rfl) ?_
  exact ⟨rfl, N329, b329, V329v, O329q⟩
theorem dj42m149_8 : decode jdk_42_method_149_code 8 = .ok (.aload_n 0, 1) := by decide +kernel
theorem dj42m149_9 : decode jdk_42_method_149_code 9 = .ok (.ldc 7, 2) := by decide +kernel
theorem dj42m149_11 : decode jdk_42_method_149_code 11 = .ok (.getfield 9, 3) := by decide +kernel
theorem dj42m149_14 : decode jdk_42_method_149_code 14 = .ok (.putfield 9, 3) := by decide +kernel
theorem dj42m149_17 : decode jdk_42_method_149_code 17 = .ok (.aload_n 0, 1) := by decide +kernel
theorem dj42m149_18 : decode jdk_42_method_149_code 18 = .ok (.ldc 7, 2) := by decide +kernel
theorem dj42m149_20 : decode jdk_42_method_149_code 20 = .ok (.getfield 15, 3) := by decide +kernel
theorem dj42m149_23 : decode jdk_42_method_149_code 23 = .ok (.putfield 15, 3) := by decide +kernel
theorem dj42m149_26 : decode jdk_42_method_149_code 26 = .ok (.return_, 1) := by decide +kernel
theorem ef_i4_0 (m : MethodId) (x0 : Addr) (x1 : Addr) (x2 : Int32) (x3 : Int32) : entryFrame m #[(.ref x0), (.ref x1), (.int x2), (.int x3), .null] 6 = mkF m 0 #[.val (.ref x0), .val (.ref x1), .val (.int x2), .val (.int x3), .val .null, .unset] [] := by first | (simp [entryFrame, mkF, argsToLocals, Value.category]; done) | rfl
def Q_i4_0 (Z : State) (a : Addr) (q : Addr) (EL : List (String × Nat)) (h0 : Heap) (n0 : Nat) (F : List (Addr × OObj)) (v : Option Value) (h : Heap) (L : List Loc) : Prop := v = none ∧ Fr n0 L ∧ ∃ b : Addr, ORead Z h (((a, Sum.inl ("java/lang/String", ns_String, [(.ref b), (.int (0 : Int32))])) : Addr × OObj) :: ((b, Sum.inr (.byte, [])) : Addr × OObj) :: []) ∧ Old Z n0 h
set_option maxRecDepth 65536 in
set_option maxHeartbeats 40000000 in
theorem rm_i4_0 (l : Launch) (Z : State) (a0 : Array Value) (hw : ∀ d ∈ tables_1, d.before a0 Z = true) (ws : List Jvm.Cond) (a : Addr) (q : Addr) (EL : List (String × Nat)) (h0 : Heap) (n0 : Nat) (F : List (Addr × OObj)) (Z0 : n0 ≤ h0.size) (hm7 : (("java/lang/String", 7) : String × Nat) ∈ EL) (hEL : EW Z a0 EL) (V0 : OView Z n0 h0 (((a, Sum.inl ("java/lang/String", ns_String, [.null, (.int (0 : Int32))])) : Addr × OObj) :: ((q, Sum.inr (.char, [])) : Addr × OObj) :: F)) (O0 : Old Z n0 h0) :
    MetFree l (⟨"java/lang/String", "<init>", "([CIILjava/lang/Void;)V"⟩ : MethodName) (head1 (Jvm.Cond.code (⟨"java/lang/String", "<init>", "([CIILjava/lang/Void;)V"⟩ : MethodName) jdk_42_method_149_code 6 none :: ws) ({ frames := 1, cells := 4, slots := 8, locals := 12 } : Room)) (fun a_ U => a_ = #[(.ref a), (.ref q), (.int (0 : Int32)), (.int (0 : Int32)), .null] ∧ Z.Warmed39 U.vm ∧ U.heap = h0 ∧ CHv Z EL U.vm h0) (fun _ _ _ _ _ => True) (fun _ U o U' => ∃ v L, o = .returned v ∧ Q_i4_0 Z a q EL h0 n0 F v U'.heap L ∧ CHr Z EL U.vm U.heap U'.vm U'.heap ∧ ReturnedEndW U o U' L ({ frames := 1, cells := 4, slots := 8, locals := 12 } : Room).cells ({ frames := 1, cells := 4, slots := 8, locals := 12 } : Room).slots) := by
  refine MetFree.of_bodySF (plainFor_of_name pn_8) hisR ?_
  intro p e s m args below meth c s₁ Bd hml0 hP hK
  obtain ⟨rfl, hZ, hh, hCH⟩ := hP
  have hx := Bd.exec
  have hby := Bd.bytes
  have hlk : meth.locks = false := Bd.notSynchronized
  have hml : c.maxLocals = 6 := hml0
  have hown : s.vm.findClass "java/lang/String" = some m.cls := findClass_of_methodNamed Bd.named
  have hnm := (name_of_methodNamed Bd.named Bd.method).1
  have X0 : Stand p l e ({ frames := 1, cells := 4, slots := 8, locals := 12 } : Room) s m #[(.ref a), (.ref q), (.int (0 : Int32)), (.int (0 : Int32)), .null] below meth c s₁ [] 0 0 := Stand.of_body Bd
  have e0 : s₁.heap = h0 := by rw [← hh, Bd.state]; rfl
  have N0 := Fr.nil n0
  show OGets p e below (OLeavesW s Z EL (Q_i4_0 Z a q EL h0 n0 F ) ({ frames := 1, cells := 4, slots := 8, locals := 12 } : Room).cells ({ frames := 1, cells := 4, slots := 8, locals := 12 } : Room).slots) _
  refine OGets.enter (ef_i4_0 m a q (0 : Int32) (0 : Int32)) ?_
  have hsa : a < h0.size := (V0.at 0 rfl).2.1
  have hsf : Safe Z EL s.vm h0 a := own_safe hZ.alike (V0.exa 0 rfl) (V0.fld 0 rfl 0 rfl rfl)
  show OGets p e below _ (s₁.setTop (mkF m 0 #[.val (.ref a), .val (.ref q), .val (.int (0 : Int32)), .val (.int (0 : Int32)), .val .null, .unset] []))
  refine OGets.step (fun _ => XS.aloadN X0.here hx rfl (hb hby dj42m149_0) rfl rfl) ?_
  obtain ⟨T330, X330, e330, st330⟩ := initO X0 hx hZ hown (hw _ (List.mem_of_getElem? (i := 17) rfl)) (hw _ (List.mem_of_getElem? (i := 18) rfl)) (hw _ (List.mem_of_getElem? (i := 19) rfl)) e0 (g := (mkF m 1 #[.val (.ref a), .val (.ref q), .val (.int (0 : Int32)), .val (.int (0 : Int32)), .val .null, .unset] [(.ref a)])) rfl (by rw [hml]; rfl) rfl (hb hby dj42m149_1) (by decide) (W := 0) (by show 2 * 0 + _ ≤ _; exact Nat.le_of_eq rfl) (by decide)
  refine OGets.step st330 ?_
  refine OGets.step (fun _ => XS.iloadN X330.here hx rfl (hb hby dj42m149_4) rfl) ?_
  refine OGets.step (fun _ => XS.ifNo X330.here hx rfl (hb hby dj42m149_5) rfl ((if0 _ _).trans (teq (by decide : (0 : Int32) = (0 : Int32))).2)) ?_
  refine OGets.step (fun _ => XS.aloadN X330.here hx rfl (hb hby dj42m149_8) rfl rfl) ?_
  obtain ⟨a332, T332, h332, k332, b332, kc332, X332, e332, E332, S332, hk332, hZ332, hown332, Ex332, Fc332, Fv332, Av332, la332, lb332, R332', -, ne332, st332⟩ := ldcCH (EL := EL) (show Stand p l e _ (s.setVm s.vm) m #[(.ref a), (.ref q), (.int (0 : Int32)), (.int (0 : Int32)), .null] below meth c T330 _ _ _ from X330) hx hZ hown (hw _ (List.mem_of_getElem? (i := 20) rfl)) (own_wS hw) e330 (State.WarmedH.since (State.WarmedH.refl s) 0) (Nat.zero_le _) hEL hm7 hCH (vs := []) (z := (0 : Int32)) ⟨by decide +kernel, by decide +kernel⟩ (by decide) (by decide) (g := (mkF m 9 #[.val (.ref a), .val (.ref q), .val (.int (0 : Int32)), .val (.int (0 : Int32)), .val .null, .unset] [(.ref a)])) rfl (hb hby dj42m149_9) (n := 0) (by decide +kernel) (by decide) (by decide) (by decide)
  have R332 : CHr Z EL s.vm h0 T332.vm h332 := R332'
  have V332 : OView Z n0 h332 (((a, Sum.inl ("java/lang/String", ns_String, [.null, (.int (0 : Int32))])) : Addr × OObj) :: ((q, Sum.inr (.char, [])) : Addr × OObj) :: F) := V0.ext E332
  have Z332 : n0 ≤ h332.size := Nat.le_trans Z0 E332.1
  have O332 := O0.ext E332
  refine OGets.step st332 ?_
  have Vs332 : OView Z 0 h332 (((a332, Sum.inl ("java/lang/String", ns_String, [(.ref b332), (.int (0 : Int32))])) : Addr × OObj) :: ((b332, Sum.inr (.byte, [])) : Addr × OObj) :: []) := own_str (lay_ns_String hw) (hw _ (List.mem_of_getElem? (i := 7) rfl)) Ex332 Fv332 Fc332 Av332 (by decide)
  have nK : b332 ≠ a := ((ne332 a (R332.safe hsa hsf)).2).symm
  show OGets p e below _ (T332.setTop (mkF m 11 #[.val (.ref a), .val (.ref q), .val (.int (0 : Int32)), .val (.int (0 : Int32)), .val .null, .unset] [(.ref a332), (.ref a)]))
  obtain ⟨T333, X333, e333, st333⟩ := getF X332 hx hZ332 hown332 (host := "") (Or.inl (hw _ (List.mem_of_getElem? (i := 26) rfl))) Via.refl e332 Fv332 (g := (mkF m 11 #[.val (.ref a), .val (.ref q), .val (.int (0 : Int32)), .val (.int (0 : Int32)), .val .null, .unset] [(.ref a332), (.ref a)])) rfl rfl (hb hby dj42m149_11)
  refine OGets.step st333 ?_
  obtain ⟨T334, h334, X334, e334, W334, st334⟩ := putF X333 hx hZ332 hown332 (host := "") (Or.inl (hw _ (List.mem_of_getElem? (i := 26) rfl))) Via.refl e333 (V332.fld 0 rfl 0 rfl rfl) (V332.exa 0 rfl) (Or.inr ⟨(hw _ (List.mem_of_getElem? (i := 22) rfl)), rfl, hnm⟩) (hw _ (List.mem_of_getElem? (i := 7) rfl)) (ty := (.array .byte)) (by decide) rfl rfl (g := (mkF m 14 #[.val (.ref a), .val (.ref q), .val (.int (0 : Int32)), .val (.int (0 : Int32)), .val .null, .unset] [(.ref b332), (.ref a)])) rfl rfl (hb hby dj42m149_14)
  have V334 : OView Z n0 h334 (((a, Sum.inl ("java/lang/String", ns_String, [(.ref b332), (.int (0 : Int32))])) : Addr × OObj) :: ((q, Sum.inr (.char, [])) : Addr × OObj) :: F) := V332.putF 0 rfl 0 rfl W334
  have N334 := Fr.snoc X334 N0 (V332.old 0 rfl)
  have Z334 : n0 ≤ h334.size := by rw [W334.size]; exact Z332
  have O334 := O332.wr W334 (V332.old 0 rfl)
  have R334 : CHr Z EL s.vm h0 T332.vm h334 := R332.trans (CHr.wr W334 (R332.safe hsa hsf) R332.1)
  refine OGets.step st334 ?_
  refine OGets.step (fun _ => XS.aloadN X334.here hx rfl (hb hby dj42m149_17) rfl rfl) ?_
  obtain ⟨a335, T335, h335, k335, b335, kc335, X335, e335, E335, S335, hk335, hZ335, hown335, Ex335, Fc335, Fv335, Av335, la335, lb335, R335', -, ne335, st335⟩ := ldcCH (EL := EL) X334 hx hZ332 hown332 (hw _ (List.mem_of_getElem? (i := 20) rfl)) (own_wS hw) e334 S332 (by rw [W334.size]; exact hk332) hEL hm7 R334.1 (vs := []) (z := (0 : Int32)) ⟨by decide +kernel, by decide +kernel⟩ (by decide) (by decide) (g := (mkF m 18 #[.val (.ref a), .val (.ref q), .val (.int (0 : Int32)), .val (.int (0 : Int32)), .val .null, .unset] [(.ref a)])) rfl (hb hby dj42m149_18) (n := 0) (by decide +kernel) (by decide) (by decide) (by decide)
  have R335 : CHr Z EL s.vm h0 T335.vm h335 := R334.trans R335'
  have V335 : OView Z n0 h335 (((a, Sum.inl ("java/lang/String", ns_String, [(.ref b332), (.int (0 : Int32))])) : Addr × OObj) :: ((q, Sum.inr (.char, [])) : Addr × OObj) :: F) := V334.ext E335
  have Z335 : n0 ≤ h335.size := Nat.le_trans Z334 E335.1
  have O335 := O334.ext E335
  refine OGets.step st335 ?_
  obtain ⟨T336, X336, e336, st336⟩ := getF X335 hx hZ335 hown335 (host := "") (Or.inl (hw _ (List.mem_of_getElem? (i := 27) rfl))) Via.refl e335 Fc335 (g := (mkF m 20 #[.val (.ref a), .val (.ref q), .val (.int (0 : Int32)), .val (.int (0 : Int32)), .val .null, .unset] [(.ref a335), (.ref a)])) rfl rfl (hb hby dj42m149_20)
  refine OGets.step st336 ?_
  obtain ⟨T337, h337, X337, e337, W337, st337⟩ := putFN X336 hx hZ335 hown335 (hw _ (List.mem_of_getElem? (i := 27) rfl)) Via.refl e336 (V335.fld 0 rfl 1 rfl rfl) (V335.exa 0 rfl) (Or.inr ⟨(hw _ (List.mem_of_getElem? (i := 23) rfl)), rfl, hnm⟩) (hw _ (List.mem_of_getElem? (i := 7) rfl)) (ty := .byte) (v' := (.int (0 : Int32))) (by decide) rfl (by decide) (g := (mkF m 23 #[.val (.ref a), .val (.ref q), .val (.int (0 : Int32)), .val (.int (0 : Int32)), .val .null, .unset] [(.int (0 : Int32)), (.ref a)])) rfl rfl (hb hby dj42m149_23)
  have V337 : OView Z n0 h337 (((a, Sum.inl ("java/lang/String", ns_String, [(.ref b332), (.int (0 : Int32))])) : Addr × OObj) :: ((q, Sum.inr (.char, [])) : Addr × OObj) :: F) := V335.putF 0 rfl 1 rfl W337
  have N337 := Fr.snoc X337 N334 (V335.old 0 rfl)
  have Z337 : n0 ≤ h337.size := by rw [W337.size]; exact Z335
  have O337 := O335.wr W337 (V335.old 0 rfl)
  have R337 : CHr Z EL s.vm h0 T335.vm h337 := R335.trans (CHr.wr W337 (R335.safe hsa hsf) R335.1)
  refine OGets.step st337 ?_
  refine OGets.retVW X337 hx hlk Bd.returns (hb hby dj42m149_26) S335 (by rw [e337]; exact (by rw [W337.size]; exact hk335)) (by rw [hh, e337]; exact R337.trans (CHv.at X337 hZ335 hEL R337.1)) (Nat.le_of_ble_eq_true rfl) (Nat.le_of_ble_eq_true rfl) ?_
  have K0 := Vs332.read.at 1 rfl
  have K1 := K0.other W334 nK
  have K2 := K1.ext E335
  have K3 := K2.other W337 nK
  rw [e337]
  exact ⟨rfl, N337, b332, ORead.app (os := [_]) (ORead.one (V337.at 0 rfl).2.2) (ORead.one K3), O337⟩
theorem ef_i1_0 (m : MethodId) (x0 : Addr) (x1 : Addr) : entryFrame m #[(.ref x0), (.ref x1)] 2 = mkF m 0 #[.val (.ref x0), .val (.ref x1)] [] := by first | (simp [entryFrame, mkF, argsToLocals, Value.category]; done) | rfl
def Q_i1_0 (Z : State) (a : Addr) (q : Addr) (EL : List (String × Nat)) (h0 : Heap) (n0 : Nat) (F : List (Addr × OObj)) (v : Option Value) (h : Heap) (L : List Loc) : Prop := v = none ∧ Fr n0 L ∧ ∃ b : Addr, ORead Z h (((a, Sum.inl ("java/lang/String", ns_String, [(.ref b), (.int (0 : Int32))])) : Addr × OObj) :: ((b, Sum.inr (.byte, [])) : Addr × OObj) :: []) ∧ Old Z n0 h
set_option maxRecDepth 65536 in
set_option maxHeartbeats 40000000 in
theorem rm_i1_0 (l : Launch) (Z : State) (a0 : Array Value) (hw : ∀ d ∈ tables_1, d.before a0 Z = true) (ws : List Jvm.Cond) (a : Addr) (q : Addr) (EL : List (String × Nat)) (h0 : Heap) (n0 : Nat) (F : List (Addr × OObj)) (Z0 : n0 ≤ h0.size) (hm7 : (("java/lang/String", 7) : String × Nat) ∈ EL) (hEL : EW Z a0 EL) (V0 : OView Z n0 h0 (((a, Sum.inl ("java/lang/String", ns_String, [.null, (.int (0 : Int32))])) : Addr × OObj) :: ((q, Sum.inr (.char, [])) : Addr × OObj) :: F)) (O0 : Old Z n0 h0) :
    MetFree l (⟨"java/lang/String", "<init>", "([C)V"⟩ : MethodName) (head1 (Jvm.Cond.code (⟨"java/lang/String", "<init>", "([C)V"⟩ : MethodName) jdk_42_method_3_code 2 none :: ws) ({ frames := 2, cells := 4, slots := 8, locals := 29 } : Room)) (fun a_ U => a_ = #[(.ref a), (.ref q)] ∧ Z.Warmed39 U.vm ∧ U.heap = h0 ∧ CHv Z EL U.vm h0) (fun _ _ _ _ _ => True) (fun _ U o U' => ∃ v L, o = .returned v ∧ Q_i1_0 Z a q EL h0 n0 F v U'.heap L ∧ CHr Z EL U.vm U.heap U'.vm U'.heap ∧ ReturnedEndW U o U' L ({ frames := 2, cells := 4, slots := 8, locals := 29 } : Room).cells ({ frames := 2, cells := 4, slots := 8, locals := 29 } : Room).slots) := by
  refine MetFree.of_bodySF (plainFor_of_name pn_8) hisR ?_
  intro p e s m args below meth c s₁ Bd hml0 hP hK
  obtain ⟨rfl, hZ, hh, hCH⟩ := hP
  have hx := Bd.exec
  have hby := Bd.bytes
  have hlk : meth.locks = false := Bd.notSynchronized
  have hml : c.maxLocals = 2 := hml0
  have hown : s.vm.findClass "java/lang/String" = some m.cls := findClass_of_methodNamed Bd.named
  have hnm := (name_of_methodNamed Bd.named Bd.method).1
  have X0 : Stand p l e ({ frames := 2, cells := 4, slots := 8, locals := 29 } : Room) s m #[(.ref a), (.ref q)] below meth c s₁ [] 0 0 := Stand.of_body Bd
  have e0 : s₁.heap = h0 := by rw [← hh, Bd.state]; rfl
  have N0 := Fr.nil n0
  show OGets p e below (OLeavesW s Z EL (Q_i1_0 Z a q EL h0 n0 F ) ({ frames := 2, cells := 4, slots := 8, locals := 29 } : Room).cells ({ frames := 2, cells := 4, slots := 8, locals := 29 } : Room).slots) _
  refine OGets.enter (ef_i1_0 m a q) ?_
  show OGets p e below _ (s₁.setTop (mkF m 0 #[.val (.ref a), .val (.ref q)] []))
  refine OGets.step (fun _ => XS.aloadN X0.here hx rfl (hb hby dj42m3_0) rfl rfl) ?_
  refine OGets.step (fun _ => XS.aloadN X0.here hx rfl (hb hby dj42m3_1) rfl rfl) ?_
  refine OGets.step (fun _ => XS.iconst X0.here hx rfl (hb hby dj42m3_2)) ?_
  refine OGets.step (fun _ => XS.aloadN X0.here hx rfl (hb hby dj42m3_3) rfl rfl) ?_
  obtain ⟨cl338, Ar338, S338⟩ := V0.arr 1 rfl
  have ln338 : cl338.slots.size.toInt32 = (0 : Int32) := by rw [own_len S338]; rfl
  refine OGets.step (U' := s₁.setTop (mkF m 5 #[.val (.ref a), .val (.ref q)] [(.int (0 : Int32)), (.int (0 : Int32)), (.ref q), (.ref a)])) (fun t kt => ?_) ?_
  · refine X0.arraylength hx (by rw [e0]; exact Ar338.1) (State.isArrayOf_alike hZ.alike Ar338.2.1) (g := (mkF m 4 #[.val (.ref a), .val (.ref q)] [(.ref q), (.int (0 : Int32)), (.ref q), (.ref a)])) rfl rfl (hb hby dj42m3_4) _ ?_
    rw [ln338]; exact kt
  refine OGets.step (fun _ => XS.aconstNull X0.here hx rfl (hb hby dj42m3_5)) ?_
  show OGets p e below _ (s₁.setTop (mkF m 6 #[.val (.ref a), .val (.ref q)] [.null, (.int (0 : Int32)), (.int (0 : Int32)), (.ref q), (.ref a)]))
  have Xw339 : Stand p l e _ (s.setVm s.vm) m #[(.ref a), (.ref q)] below meth c s₁ _ _ _ := X0
  obtain ⟨_, _, ⟨T339, L339, k339, n339⟩, -, X339', S339', hgr339, ⟨Lc339, hQ339, l339, y339, z339, hC339⟩, st339⟩ := Xw339.specialBackS hx (y := (⟨"java/lang/String", "<init>", "([CIILjava/lang/Void;)V"⟩ : MethodName)) rfl hown (mvT hZ (hw _ (List.mem_of_getElem? (i := 13) rfl))) (mvT hZ (hw _ (List.mem_of_getElem? (i := 14) rfl))) (mvT hZ (hw _ (List.mem_of_getElem? (i := 16) rfl))) (by decide) (backOfSH (EL := EL) (W := 0) (rm_i4_0 l Z a0 hw [] a q EL h0 n0 _ Z0 hm7 hEL V0 O0) hZ (hw _ (List.mem_of_getElem? (i := 16) rfl)) (hw _ (List.mem_of_getElem? (i := 8) rfl)) (by decide) (by decide) hEL hCH) (g := (mkF m 6 #[.val (.ref a), .val (.ref q)] [.null, (.int (0 : Int32)), (.int (0 : Int32)), (.ref q), (.ref a)])) rfl (by rw [hml]; rfl) (Steps.refl _) (a := a) (argsL := [(.ref q), (.int (0 : Int32)), (.int (0 : Int32)), .null]) (rest := []) (lenOf pd_10 rfl) rfl (by show 2 * 0 + _ ≤ _; exact Nat.le_of_eq rfl) (hb hby dj42m3_6) (fun _ _ => ⟨rfl, e0, Nat.le_of_ble_eq_true rfl, Nat.le_of_ble_eq_true rfl⟩)
  dsimp only [Pt.U, Pt.locs, Pt.cells, Pt.slots] at X339' S339' hgr339 l339 y339 z339 st339 hQ339 hC339
  rw [l339, y339, z339] at X339'
  have X339 : Stand p l e _ (s.setVm T339.vm) m #[(.ref a), (.ref q)] below meth c T339 _ _ _ := X339'
  have S339 : s.Since T339.vm T339.heap.size := S339'
  have hZ339 : Z.Warmed39 (s.setVm T339.vm).vm := State.Warmed39.trans (t := (s.setVm s.vm)) hZ S339'.1
  have hown339 : (s.setVm T339.vm).vm.findClass "java/lang/String" = some m.cls := by rw [show (s.setVm T339.vm).vm = T339.vm from rfl, S339'.1.alike.findClass]; exact hown
  obtain ⟨rfl, N339q, b339, V339, O339q⟩ := hQ339
  have N339 := Fr.app N0 N339q
  have R339 : CHr Z EL s.vm h0 T339.vm T339.heap := hC339
  refine OGets.after st339 ?_
  refine OGets.retVW X339 hx hlk Bd.returns (hb hby dj42m3_9) S339 (Nat.le_refl _) (by rw [hh]; exact R339.trans (CHv.at X339 hZ339 hEL R339.1)) (Nat.le_of_ble_eq_true rfl) (Nat.le_of_ble_eq_true rfl) ?_
  exact ⟨rfl, N339, _, V339, O339q⟩
theorem pn_11 : plainName "java/lang/StringLatin1" = true := by first | (simp [plainName, overriddenIn]; done) | decide +kernel
theorem dj43m13_0 : decode jdk_43_method_13_code 0 = .ok (.aload_n 0, 1) := by decide +kernel
theorem dj43m13_1 : decode jdk_43_method_13_code 1 = .ok (.arraylength, 1) := by decide +kernel
theorem dj43m13_2 : decode jdk_43_method_13_code 2 = .ok (.aload_n 1, 1) := by decide +kernel
theorem dj43m13_3 : decode jdk_43_method_13_code 3 = .ok (.arraylength, 1) := by decide +kernel
theorem dj43m13_4 : decode jdk_43_method_13_code 4 = .ok (.if_icmp .ne 30, 3) := by decide +kernel
theorem dj43m13_34 : decode jdk_43_method_13_code 34 = .ok (.iconst 0, 1) := by decide +kernel
theorem dj43m13_35 : decode jdk_43_method_13_code 35 = .ok (.ireturn, 1) := by decide +kernel
theorem ef_le01 (m : MethodId) (x0 : Addr) (x1 : Addr) : entryFrame m #[(.ref x0), (.ref x1)] 3 = mkF m 0 #[.val (.ref x0), .val (.ref x1), .unset] [] := by first | (simp [entryFrame, mkF, argsToLocals, Value.category]; done) | rfl
def Q_le01 (Z : State) (b : Addr) (d : Addr) (h0 : Heap) (n0 : Nat) (F : List (Addr × OObj)) (v : Option Value) (h : Heap) (L : List Loc) : Prop := v = some (.int (0 : Int32)) ∧ L = [] ∧ h = h0
set_option maxRecDepth 65536 in
set_option maxHeartbeats 40000000 in
theorem rm_le01 (l : Launch) (Z : State) (a0 : Array Value) (hw : ∀ d ∈ tables_1, d.before a0 Z = true) (ws : List Jvm.Cond) (b : Addr) (d : Addr) (h0 : Heap) (n0 : Nat) (F : List (Addr × OObj)) (Z0 : n0 ≤ h0.size) (V0 : ORead Z h0 (((b, Sum.inr (.byte, [])) : Addr × OObj) :: ((d, Sum.inr (.byte, [(.int (46 : Int32))])) : Addr × OObj) :: F)) :
    MetFree l (⟨"java/lang/StringLatin1", "equals", "([B[B)Z"⟩ : MethodName) (head1 (Jvm.Cond.code (⟨"java/lang/StringLatin1", "equals", "([B[B)Z"⟩ : MethodName) jdk_43_method_13_code 3 (some .boolean) :: ws) ({ frames := 0, cells := 0, slots := 0, locals := 0 } : Room)) (fun a_ U => a_ = #[(.ref b), (.ref d)] ∧ Z.Warmed39 U.vm ∧ U.heap = h0) (fun _ _ _ _ _ => True) (fun _ U o U' => ∃ v L, o = .returned v ∧ Q_le01 Z b d h0 n0 F v U'.heap L ∧ FrameEnd U o U' L ({ frames := 0, cells := 0, slots := 0, locals := 0 } : Room).cells ({ frames := 0, cells := 0, slots := 0, locals := 0 } : Room).slots) := by
  refine MetFree.of_bodySF (plainFor_of_name pn_11) hisR ?_
  intro p e s m args below meth c s₁ Bd hml0 hP hK
  obtain ⟨rfl, hZ, hh⟩ := hP
  have hx := Bd.exec
  have hby := Bd.bytes
  have hlk : meth.locks = false := Bd.notSynchronized
  have hml : c.maxLocals = 3 := hml0
  have hown : s.vm.findClass "java/lang/StringLatin1" = some m.cls := findClass_of_methodNamed Bd.named
  have hnm := (name_of_methodNamed Bd.named Bd.method).1
  have X0 : Stand p l e ({ frames := 0, cells := 0, slots := 0, locals := 0 } : Room) s m #[(.ref b), (.ref d)] below meth c s₁ [] 0 0 := Stand.of_body Bd
  have e0 : s₁.heap = h0 := by rw [← hh, Bd.state]; rfl
  have N0 := Fr.nil n0
  show OGets p e below (OLeaves s (Q_le01 Z b d h0 n0 F ) ({ frames := 0, cells := 0, slots := 0, locals := 0 } : Room).cells ({ frames := 0, cells := 0, slots := 0, locals := 0 } : Room).slots) _
  refine OGets.enter (ef_le01 m b d) ?_
  show OGets p e below _ (s₁.setTop (mkF m 0 #[.val (.ref b), .val (.ref d), .unset] []))
  refine OGets.step (fun _ => XS.aloadN X0.here hx rfl (hb hby dj43m13_0) rfl rfl) ?_
  obtain ⟨cl340, Ar340, S340⟩ := V0.arr 0 rfl
  have ln340 : cl340.slots.size.toInt32 = (0 : Int32) := by rw [own_len S340]; rfl
  refine OGets.step (U' := s₁.setTop (mkF m 2 #[.val (.ref b), .val (.ref d), .unset] [(.int (0 : Int32))])) (fun t kt => ?_) ?_
  · refine X0.arraylength hx (by rw [e0]; exact Ar340.1) (State.isArrayOf_alike hZ.alike Ar340.2.1) (g := (mkF m 1 #[.val (.ref b), .val (.ref d), .unset] [(.ref b)])) rfl rfl (hb hby dj43m13_1) _ ?_
    rw [ln340]; exact kt
  refine OGets.step (fun _ => XS.aloadN X0.here hx rfl (hb hby dj43m13_2) rfl rfl) ?_
  obtain ⟨cl341, Ar341, S341⟩ := V0.arr 1 rfl
  have ln341 : cl341.slots.size.toInt32 = (1 : Int32) := by rw [own_len S341]; rfl
  refine OGets.step (U' := s₁.setTop (mkF m 4 #[.val (.ref b), .val (.ref d), .unset] [(.int (1 : Int32)), (.int (0 : Int32))])) (fun t kt => ?_) ?_
  · refine X0.arraylength hx (by rw [e0]; exact Ar341.1) (State.isArrayOf_alike hZ.alike Ar341.2.1) (g := (mkF m 3 #[.val (.ref b), .val (.ref d), .unset] [(.ref d), (.int (0 : Int32))])) rfl rfl (hb hby dj43m13_3) _ ?_
    rw [ln341]; exact kt
  refine OGets.step (fun _ => XS.icmpYes X0.here hx rfl (pc0 := 4) (pc' := 34) rfl (hb hby dj43m13_4) rfl (feq (by decide : ¬ ((0 : Int32) = (1 : Int32)))).2 (by decide) (by decide)) ?_
  refine OGets.step (fun _ => XS.iconst X0.here hx rfl (hb hby dj43m13_34)) ?_
  show OGets p e below _ (s₁.setTop (mkF m 35 #[.val (.ref b), .val (.ref d), .unset] [(.int (0 : Int32))]))
  refine OGets.retN X0 hx hlk (t := .boolean) Bd.returns (by simp) (hb hby dj43m13_35) (Nat.le_of_ble_eq_true rfl) (Nat.le_of_ble_eq_true rfl) ?_
  exact ⟨congrArg (fun z => some (Value.int z)) (show _ = (0 : Int32) from by decide), rfl, e0⟩
theorem dj42m66_0 : decode jdk_42_method_66_code 0 = .ok (.aload_n 0, 1) := by decide +kernel
theorem dj42m66_1 : decode jdk_42_method_66_code 1 = .ok (.aload_n 1, 1) := by decide +kernel
theorem dj42m66_2 : decode jdk_42_method_66_code 2 = .ok (.if_acmp .ne 5, 3) := by decide +kernel
theorem dj42m66_7 : decode jdk_42_method_66_code 7 = .ok (.aload_n 1, 1) := by decide +kernel
theorem dj42m66_8 : decode jdk_42_method_66_code 8 = .ok (.instanceof 10, 3) := by decide +kernel
theorem dj42m66_11 : decode jdk_42_method_66_code 11 = .ok (.ifCond .eq 43, 3) := by decide +kernel
theorem dj42m66_14 : decode jdk_42_method_66_code 14 = .ok (.aload_n 1, 1) := by decide +kernel
theorem dj42m66_15 : decode jdk_42_method_66_code 15 = .ok (.checkcast 10, 3) := by decide +kernel
theorem dj42m66_18 : decode jdk_42_method_66_code 18 = .ok (.astore_n 2, 1) := by decide +kernel
theorem dj42m66_19 : decode jdk_42_method_66_code 19 = .ok (.getstatic 38, 3) := by decide +kernel
theorem dj42m66_22 : decode jdk_42_method_66_code 22 = .ok (.ifCond .eq 14, 3) := by decide +kernel
theorem dj42m66_25 : decode jdk_42_method_66_code 25 = .ok (.aload_n 0, 1) := by decide +kernel
theorem dj42m66_26 : decode jdk_42_method_66_code 26 = .ok (.getfield 15, 3) := by decide +kernel
theorem dj42m66_29 : decode jdk_42_method_66_code 29 = .ok (.aload_n 2, 1) := by decide +kernel
theorem dj42m66_30 : decode jdk_42_method_66_code 30 = .ok (.getfield 15, 3) := by decide +kernel
theorem dj42m66_33 : decode jdk_42_method_66_code 33 = .ok (.if_icmp .ne 21, 3) := by decide +kernel
theorem dj42m66_36 : decode jdk_42_method_66_code 36 = .ok (.aload_n 0, 1) := by decide +kernel
theorem dj42m66_37 : decode jdk_42_method_66_code 37 = .ok (.getfield 9, 3) := by decide +kernel
theorem dj42m66_40 : decode jdk_42_method_66_code 40 = .ok (.aload_n 2, 1) := by decide +kernel
theorem dj42m66_41 : decode jdk_42_method_66_code 41 = .ok (.getfield 9, 3) := by decide +kernel
theorem dj42m66_44 : decode jdk_42_method_66_code 44 = .ok (.invokestatic 541, 3) := by decide +kernel
theorem pd_12 : parseMethodDescriptor "([B[B)Z" = some ⟨[(.array .byte), (.array .byte)], some .boolean⟩ := by decide +kernel
theorem dj42m66_47 : decode jdk_42_method_66_code 47 = .ok (.ifCond .eq 7, 3) := by decide +kernel
theorem dj42m66_54 : decode jdk_42_method_66_code 54 = .ok (.iconst 0, 1) := by decide +kernel
theorem dj42m66_55 : decode jdk_42_method_66_code 55 = .ok (.ireturn, 1) := by decide +kernel
theorem ef_eq01 (m : MethodId) (x0 : Addr) (x1 : Addr) : entryFrame m #[(.ref x0), (.ref x1)] 3 = mkF m 0 #[.val (.ref x0), .val (.ref x1), .unset] [] := by first | (simp [entryFrame, mkF, argsToLocals, Value.category]; done) | rfl
def Q_eq01 (Z : State) (a : Addr) (b : Addr) (k : Addr) (d : Addr) (G : Int32) (h0 : Heap) (n0 : Nat) (F : List (Addr × OObj)) (v : Option Value) (h : Heap) (L : List Loc) : Prop := v = some (.int (0 : Int32)) ∧ L = [] ∧ h = h0
set_option maxRecDepth 65536 in
set_option maxHeartbeats 40000000 in
theorem rm_eq01 (l : Launch) (Z : State) (a0 : Array Value) (hw : ∀ d ∈ tables_1, d.before a0 Z = true) (ws : List Jvm.Cond) (a : Addr) (b : Addr) (k : Addr) (d : Addr) (G : Int32) (h0 : Heap) (n0 : Nat) (F : List (Addr × OObj)) (Z0 : n0 ≤ h0.size) (S0 : Sta Z h0 "java/lang/String" "COMPACT_STRINGS" "Z" (.int G)) (hG : ¬ G = (0 : Int32)) (V0 : ORead Z h0 (((a, Sum.inl ("java/lang/String", ns_String, [(.ref b), (.int (0 : Int32))])) : Addr × OObj) :: ((b, Sum.inr (.byte, [])) : Addr × OObj) :: ((k, Sum.inl ("java/lang/String", ns_String, [(.ref d), (.int (0 : Int32))])) : Addr × OObj) :: ((d, Sum.inr (.byte, [(.int (46 : Int32))])) : Addr × OObj) :: F)) :
    MetFree l (⟨"java/lang/String", "equals", "(Ljava/lang/Object;)Z"⟩ : MethodName) (head1 (Jvm.Cond.code (⟨"java/lang/String", "equals", "(Ljava/lang/Object;)Z"⟩ : MethodName) jdk_42_method_66_code 3 (some .boolean) :: ws) ({ frames := 1, cells := 0, slots := 0, locals := 14 } : Room)) (fun a_ U => a_ = #[(.ref a), (.ref k)] ∧ Z.Warmed39 U.vm ∧ U.heap = h0) (fun _ _ _ _ _ => True) (fun _ U o U' => ∃ v L, o = .returned v ∧ Q_eq01 Z a b k d G h0 n0 F v U'.heap L ∧ FrameEnd U o U' L ({ frames := 1, cells := 0, slots := 0, locals := 14 } : Room).cells ({ frames := 1, cells := 0, slots := 0, locals := 14 } : Room).slots) := by
  refine MetFree.of_bodySF (plainFor_of_name pn_8) hisR ?_
  intro p e s m args below meth c s₁ Bd hml0 hP hK
  obtain ⟨rfl, hZ, hh⟩ := hP
  have hx := Bd.exec
  have hby := Bd.bytes
  have hlk : meth.locks = false := Bd.notSynchronized
  have hml : c.maxLocals = 3 := hml0
  have hown : s.vm.findClass "java/lang/String" = some m.cls := findClass_of_methodNamed Bd.named
  have hnm := (name_of_methodNamed Bd.named Bd.method).1
  have X0 : Stand p l e ({ frames := 1, cells := 0, slots := 0, locals := 14 } : Room) s m #[(.ref a), (.ref k)] below meth c s₁ [] 0 0 := Stand.of_body Bd
  have e0 : s₁.heap = h0 := by rw [← hh, Bd.state]; rfl
  have N0 := Fr.nil n0
  show OGets p e below (OLeaves s (Q_eq01 Z a b k d G h0 n0 F ) ({ frames := 1, cells := 0, slots := 0, locals := 14 } : Room).cells ({ frames := 1, cells := 0, slots := 0, locals := 14 } : Room).slots) _
  refine OGets.enter (ef_eq01 m a k) ?_
  show OGets p e below _ (s₁.setTop (mkF m 0 #[.val (.ref a), .val (.ref k), .unset] []))
  refine OGets.step (fun _ => XS.aloadN X0.here hx rfl (hb hby dj42m66_0) rfl rfl) ?_
  refine OGets.step (fun _ => XS.aloadN X0.here hx rfl (hb hby dj42m66_1) rfl rfl) ?_
  refine OGets.step (fun _ => Jvm.RoadKit.acmp (g := (mkF m 2 #[.val (.ref a), .val (.ref k), .unset] [(.ref k), (.ref a)])) X0 hx rfl rfl rfl (pc0 := 2) (pc' := 7) (same := false) rfl (hb hby dj42m66_2) rfl (decide_eq_false (fun q => absurd (congrArg List.length (own_same (V0.fld 0 rfl 0 rfl rfl) (V0.fld 2 rfl 0 rfl rfl) (Value.ref.inj q) (V0.arr 1 rfl) (V0.arr 3 rfl))) (by simp))) (by decide) (by decide)) ?_
  refine OGets.step (fun _ => XS.aloadN X0.here hx rfl (hb hby dj42m66_7) rfl rfl) ?_
  obtain ⟨T343, X343, e343, st343⟩ := instY X0 hx hZ hown (hw _ (List.mem_of_getElem? (i := 38) rfl)) e0 (Ins.self (V0.exa 2 rfl)) (g := (mkF m 8 #[.val (.ref a), .val (.ref k), .unset] [(.ref k)])) rfl rfl (hb hby dj42m66_8)
  refine OGets.step st343 ?_
  refine OGets.step (fun _ => XS.ifNo X343.here hx rfl (hb hby dj42m66_11) rfl ((if0 _ _).trans (feq (by decide : ¬ ((1 : Int32) = (0 : Int32)))).1)) ?_
  refine OGets.step (fun _ => XS.aloadN X343.here hx rfl (hb hby dj42m66_14) rfl rfl) ?_
  obtain ⟨T345, X345, e345, st345⟩ := castY X343 hx hZ hown (hw _ (List.mem_of_getElem? (i := 38) rfl)) e343 (Ins.self (V0.exa 2 rfl)) (g := (mkF m 15 #[.val (.ref a), .val (.ref k), .unset] [(.ref k)])) rfl rfl (hb hby dj42m66_15)
  refine OGets.step st345 ?_
  refine OGets.step (fun _ => XS.astoreN X345.here hx rfl (hb hby dj42m66_18) rfl rfl (l' := #[.val (.ref a), .val (.ref k), .val (.ref k)]) rfl) ?_
  obtain ⟨T346, X346, e346, st346⟩ := getS2 X345 hx hZ hown (host := "") (Or.inl (hw _ (List.mem_of_getElem? (i := 39) rfl))) Via.refl e345 S0 (g := (mkF m 19 #[.val (.ref a), .val (.ref k), .val (.ref k)] [])) rfl (hb hby dj42m66_19)
  refine OGets.step st346 ?_
  refine OGets.step (fun _ => XS.ifNo X346.here hx rfl (hb hby dj42m66_22) rfl ((if0 _ _).trans (feq (hG : ¬ (G = (0 : Int32)))).1)) ?_
  refine OGets.step (fun _ => XS.aloadN X346.here hx rfl (hb hby dj42m66_25) rfl rfl) ?_
  obtain ⟨T348, X348, e348, st348⟩ := getF X346 hx hZ hown (host := "") (Or.inl (hw _ (List.mem_of_getElem? (i := 27) rfl))) Via.refl e346 (V0.fld 0 rfl 1 rfl rfl) (g := (mkF m 26 #[.val (.ref a), .val (.ref k), .val (.ref k)] [(.ref a)])) rfl rfl (hb hby dj42m66_26)
  refine OGets.step st348 ?_
  refine OGets.step (fun _ => XS.aloadN X348.here hx rfl (hb hby dj42m66_29) rfl rfl) ?_
  obtain ⟨T349, X349, e349, st349⟩ := getF X348 hx hZ hown (host := "") (Or.inl (hw _ (List.mem_of_getElem? (i := 27) rfl))) Via.refl e348 (V0.fld 2 rfl 1 rfl rfl) (g := (mkF m 30 #[.val (.ref a), .val (.ref k), .val (.ref k)] [(.ref k), (.int (0 : Int32))])) rfl rfl (hb hby dj42m66_30)
  refine OGets.step st349 ?_
  refine OGets.step (fun _ => XS.icmpNo X349.here hx rfl (hb hby dj42m66_33) rfl (teq (by decide : (0 : Int32) = (0 : Int32))).2) ?_
  refine OGets.step (fun _ => XS.aloadN X349.here hx rfl (hb hby dj42m66_36) rfl rfl) ?_
  obtain ⟨T351, X351, e351, st351⟩ := getF X349 hx hZ hown (host := "") (Or.inl (hw _ (List.mem_of_getElem? (i := 26) rfl))) Via.refl e349 (V0.fld 0 rfl 0 rfl rfl) (g := (mkF m 37 #[.val (.ref a), .val (.ref k), .val (.ref k)] [(.ref a)])) rfl rfl (hb hby dj42m66_37)
  refine OGets.step st351 ?_
  refine OGets.step (fun _ => XS.aloadN X351.here hx rfl (hb hby dj42m66_40) rfl rfl) ?_
  obtain ⟨T352, X352, e352, st352⟩ := getF X351 hx hZ hown (host := "") (Or.inl (hw _ (List.mem_of_getElem? (i := 26) rfl))) Via.refl e351 (V0.fld 2 rfl 0 rfl rfl) (g := (mkF m 41 #[.val (.ref a), .val (.ref k), .val (.ref k)] [(.ref k), (.ref b)])) rfl rfl (hb hby dj42m66_41)
  refine OGets.step st352 ?_
  have V353_ : ORead Z h0 (((b, Sum.inr (.byte, [])) : Addr × OObj) :: ((d, Sum.inr (.byte, [(.int (46 : Int32))])) : Addr × OObj) :: ((a, Sum.inl ("java/lang/String", ns_String, [(.ref b), (.int (0 : Int32))])) : Addr × OObj) :: ((k, Sum.inl ("java/lang/String", ns_String, [(.ref d), (.int (0 : Int32))])) : Addr × OObj) :: F) := ((V0.bring 3 rfl).bring 2 rfl)
  obtain ⟨_, _, ⟨T353, L353, k353, n353⟩, -, X353, ⟨Lc353, hQ353, l353, y353, z353⟩, st353⟩ := Jvm.LawKit.callS X352 hx (y := (⟨"java/lang/StringLatin1", "equals", "([B[B)Z"⟩ : MethodName)) hown (mvT hZ (hw _ (List.mem_of_getElem? (i := 40) rfl))) (mvT hZ (hw _ (List.mem_of_getElem? (i := 41) rfl))) (mvT hZ (hw _ (List.mem_of_getElem? (i := 42) rfl))) (mvT hZ (hw _ (List.mem_of_getElem? (i := 43) rfl))) (by decide) (backOf (W := 0) (rm_le01 l Z a0 hw [] b d h0 n0 _ Z0  V353_) hZ (hw _ (List.mem_of_getElem? (i := 43) rfl)) (hw _ (List.mem_of_getElem? (i := 42) rfl)) (by decide) (by decide)) (g := (mkF m 44 #[.val (.ref a), .val (.ref k), .val (.ref k)] [(.ref d), (.ref b)])) rfl (by rw [hml]; rfl) (argsL := [(.ref b), (.ref d)]) (rest := []) (lenOf pd_12 rfl) rfl (by show 2 * 0 + _ ≤ _; exact Nat.le_of_eq rfl) (hb hby dj42m66_44) (fun _ _ => ⟨rfl, e352, Nat.le_of_ble_eq_true rfl, Nat.le_of_ble_eq_true rfl⟩)
  dsimp only [Pt.U, Pt.locs, Pt.cells, Pt.slots] at X353 l353 y353 z353 st353 hQ353
  rw [l353, y353, z353] at X353
  obtain ⟨rfl, rfl, e353⟩ := hQ353
  have X353 : Stand p l e _ s m #[(.ref a), (.ref k)] below meth c T353 [] 0 0 := X353
  refine OGets.step st353 ?_
  refine OGets.step (fun _ => XS.ifYes X353.here hx rfl (pc0 := 47) (pc' := 54) rfl (hb hby dj42m66_47) rfl ((if0 _ _).trans (teq (by decide : (0 : Int32) = (0 : Int32))).1) (by decide) (by decide)) ?_
  refine OGets.step (fun _ => XS.iconst X353.here hx rfl (hb hby dj42m66_54)) ?_
  refine OGets.retN X353 hx hlk (t := .boolean) Bd.returns (by simp) (hb hby dj42m66_55) (Nat.le_of_ble_eq_true rfl) (Nat.le_of_ble_eq_true rfl) ?_
  exact ⟨congrArg (fun z => some (Value.int z)) (show _ = (0 : Int32) from by decide), rfl, e353⟩
theorem ef_le02 (m : MethodId) (x0 : Addr) (x1 : Addr) : entryFrame m #[(.ref x0), (.ref x1)] 3 = mkF m 0 #[.val (.ref x0), .val (.ref x1), .unset] [] := by first | (simp [entryFrame, mkF, argsToLocals, Value.category]; done) | rfl
def Q_le02 (Z : State) (b : Addr) (d : Addr) (h0 : Heap) (n0 : Nat) (F : List (Addr × OObj)) (v : Option Value) (h : Heap) (L : List Loc) : Prop := v = some (.int (0 : Int32)) ∧ L = [] ∧ h = h0
set_option maxRecDepth 65536 in
set_option maxHeartbeats 40000000 in
theorem rm_le02 (l : Launch) (Z : State) (a0 : Array Value) (hw : ∀ d ∈ tables_1, d.before a0 Z = true) (ws : List Jvm.Cond) (b : Addr) (d : Addr) (h0 : Heap) (n0 : Nat) (F : List (Addr × OObj)) (Z0 : n0 ≤ h0.size) (V0 : ORead Z h0 (((b, Sum.inr (.byte, [])) : Addr × OObj) :: ((d, Sum.inr (.byte, [(.int (46 : Int32)), (.int (46 : Int32))])) : Addr × OObj) :: F)) :
    MetFree l (⟨"java/lang/StringLatin1", "equals", "([B[B)Z"⟩ : MethodName) (head1 (Jvm.Cond.code (⟨"java/lang/StringLatin1", "equals", "([B[B)Z"⟩ : MethodName) jdk_43_method_13_code 3 (some .boolean) :: ws) ({ frames := 0, cells := 0, slots := 0, locals := 0 } : Room)) (fun a_ U => a_ = #[(.ref b), (.ref d)] ∧ Z.Warmed39 U.vm ∧ U.heap = h0) (fun _ _ _ _ _ => True) (fun _ U o U' => ∃ v L, o = .returned v ∧ Q_le02 Z b d h0 n0 F v U'.heap L ∧ FrameEnd U o U' L ({ frames := 0, cells := 0, slots := 0, locals := 0 } : Room).cells ({ frames := 0, cells := 0, slots := 0, locals := 0 } : Room).slots) := by
  refine MetFree.of_bodySF (plainFor_of_name pn_11) hisR ?_
  intro p e s m args below meth c s₁ Bd hml0 hP hK
  obtain ⟨rfl, hZ, hh⟩ := hP
  have hx := Bd.exec
  have hby := Bd.bytes
  have hlk : meth.locks = false := Bd.notSynchronized
  have hml : c.maxLocals = 3 := hml0
  have hown : s.vm.findClass "java/lang/StringLatin1" = some m.cls := findClass_of_methodNamed Bd.named
  have hnm := (name_of_methodNamed Bd.named Bd.method).1
  have X0 : Stand p l e ({ frames := 0, cells := 0, slots := 0, locals := 0 } : Room) s m #[(.ref b), (.ref d)] below meth c s₁ [] 0 0 := Stand.of_body Bd
  have e0 : s₁.heap = h0 := by rw [← hh, Bd.state]; rfl
  have N0 := Fr.nil n0
  show OGets p e below (OLeaves s (Q_le02 Z b d h0 n0 F ) ({ frames := 0, cells := 0, slots := 0, locals := 0 } : Room).cells ({ frames := 0, cells := 0, slots := 0, locals := 0 } : Room).slots) _
  refine OGets.enter (ef_le02 m b d) ?_
  show OGets p e below _ (s₁.setTop (mkF m 0 #[.val (.ref b), .val (.ref d), .unset] []))
  refine OGets.step (fun _ => XS.aloadN X0.here hx rfl (hb hby dj43m13_0) rfl rfl) ?_
  obtain ⟨cl355, Ar355, S355⟩ := V0.arr 0 rfl
  have ln355 : cl355.slots.size.toInt32 = (0 : Int32) := by rw [own_len S355]; rfl
  refine OGets.step (U' := s₁.setTop (mkF m 2 #[.val (.ref b), .val (.ref d), .unset] [(.int (0 : Int32))])) (fun t kt => ?_) ?_
  · refine X0.arraylength hx (by rw [e0]; exact Ar355.1) (State.isArrayOf_alike hZ.alike Ar355.2.1) (g := (mkF m 1 #[.val (.ref b), .val (.ref d), .unset] [(.ref b)])) rfl rfl (hb hby dj43m13_1) _ ?_
    rw [ln355]; exact kt
  refine OGets.step (fun _ => XS.aloadN X0.here hx rfl (hb hby dj43m13_2) rfl rfl) ?_
  obtain ⟨cl356, Ar356, S356⟩ := V0.arr 1 rfl
  have ln356 : cl356.slots.size.toInt32 = (2 : Int32) := by rw [own_len S356]; rfl
  refine OGets.step (U' := s₁.setTop (mkF m 4 #[.val (.ref b), .val (.ref d), .unset] [(.int (2 : Int32)), (.int (0 : Int32))])) (fun t kt => ?_) ?_
  · refine X0.arraylength hx (by rw [e0]; exact Ar356.1) (State.isArrayOf_alike hZ.alike Ar356.2.1) (g := (mkF m 3 #[.val (.ref b), .val (.ref d), .unset] [(.ref d), (.int (0 : Int32))])) rfl rfl (hb hby dj43m13_3) _ ?_
    rw [ln356]; exact kt
  refine OGets.step (fun _ => XS.icmpYes X0.here hx rfl (pc0 := 4) (pc' := 34) rfl (hb hby dj43m13_4) rfl (feq (by decide : ¬ ((0 : Int32) = (2 : Int32)))).2 (by decide) (by decide)) ?_
  refine OGets.step (fun _ => XS.iconst X0.here hx rfl (hb hby dj43m13_34)) ?_
  show OGets p e below _ (s₁.setTop (mkF m 35 #[.val (.ref b), .val (.ref d), .unset] [(.int (0 : Int32))]))
  refine OGets.retN X0 hx hlk (t := .boolean) Bd.returns (by simp) (hb hby dj43m13_35) (Nat.le_of_ble_eq_true rfl) (Nat.le_of_ble_eq_true rfl) ?_
  exact ⟨congrArg (fun z => some (Value.int z)) (show _ = (0 : Int32) from by decide), rfl, e0⟩
theorem ef_eq02 (m : MethodId) (x0 : Addr) (x1 : Addr) : entryFrame m #[(.ref x0), (.ref x1)] 3 = mkF m 0 #[.val (.ref x0), .val (.ref x1), .unset] [] := by first | (simp [entryFrame, mkF, argsToLocals, Value.category]; done) | rfl
def Q_eq02 (Z : State) (a : Addr) (b : Addr) (k : Addr) (d : Addr) (G : Int32) (h0 : Heap) (n0 : Nat) (F : List (Addr × OObj)) (v : Option Value) (h : Heap) (L : List Loc) : Prop := v = some (.int (0 : Int32)) ∧ L = [] ∧ h = h0
set_option maxRecDepth 65536 in
set_option maxHeartbeats 40000000 in
theorem rm_eq02 (l : Launch) (Z : State) (a0 : Array Value) (hw : ∀ d ∈ tables_1, d.before a0 Z = true) (ws : List Jvm.Cond) (a : Addr) (b : Addr) (k : Addr) (d : Addr) (G : Int32) (h0 : Heap) (n0 : Nat) (F : List (Addr × OObj)) (Z0 : n0 ≤ h0.size) (S0 : Sta Z h0 "java/lang/String" "COMPACT_STRINGS" "Z" (.int G)) (hG : ¬ G = (0 : Int32)) (V0 : ORead Z h0 (((a, Sum.inl ("java/lang/String", ns_String, [(.ref b), (.int (0 : Int32))])) : Addr × OObj) :: ((b, Sum.inr (.byte, [])) : Addr × OObj) :: ((k, Sum.inl ("java/lang/String", ns_String, [(.ref d), (.int (0 : Int32))])) : Addr × OObj) :: ((d, Sum.inr (.byte, [(.int (46 : Int32)), (.int (46 : Int32))])) : Addr × OObj) :: F)) :
    MetFree l (⟨"java/lang/String", "equals", "(Ljava/lang/Object;)Z"⟩ : MethodName) (head1 (Jvm.Cond.code (⟨"java/lang/String", "equals", "(Ljava/lang/Object;)Z"⟩ : MethodName) jdk_42_method_66_code 3 (some .boolean) :: ws) ({ frames := 1, cells := 0, slots := 0, locals := 14 } : Room)) (fun a_ U => a_ = #[(.ref a), (.ref k)] ∧ Z.Warmed39 U.vm ∧ U.heap = h0) (fun _ _ _ _ _ => True) (fun _ U o U' => ∃ v L, o = .returned v ∧ Q_eq02 Z a b k d G h0 n0 F v U'.heap L ∧ FrameEnd U o U' L ({ frames := 1, cells := 0, slots := 0, locals := 14 } : Room).cells ({ frames := 1, cells := 0, slots := 0, locals := 14 } : Room).slots) := by
  refine MetFree.of_bodySF (plainFor_of_name pn_8) hisR ?_
  intro p e s m args below meth c s₁ Bd hml0 hP hK
  obtain ⟨rfl, hZ, hh⟩ := hP
  have hx := Bd.exec
  have hby := Bd.bytes
  have hlk : meth.locks = false := Bd.notSynchronized
  have hml : c.maxLocals = 3 := hml0
  have hown : s.vm.findClass "java/lang/String" = some m.cls := findClass_of_methodNamed Bd.named
  have hnm := (name_of_methodNamed Bd.named Bd.method).1
  have X0 : Stand p l e ({ frames := 1, cells := 0, slots := 0, locals := 14 } : Room) s m #[(.ref a), (.ref k)] below meth c s₁ [] 0 0 := Stand.of_body Bd
  have e0 : s₁.heap = h0 := by rw [← hh, Bd.state]; rfl
  have N0 := Fr.nil n0
  show OGets p e below (OLeaves s (Q_eq02 Z a b k d G h0 n0 F ) ({ frames := 1, cells := 0, slots := 0, locals := 14 } : Room).cells ({ frames := 1, cells := 0, slots := 0, locals := 14 } : Room).slots) _
  refine OGets.enter (ef_eq02 m a k) ?_
  show OGets p e below _ (s₁.setTop (mkF m 0 #[.val (.ref a), .val (.ref k), .unset] []))
  refine OGets.step (fun _ => XS.aloadN X0.here hx rfl (hb hby dj42m66_0) rfl rfl) ?_
  refine OGets.step (fun _ => XS.aloadN X0.here hx rfl (hb hby dj42m66_1) rfl rfl) ?_
  refine OGets.step (fun _ => Jvm.RoadKit.acmp (g := (mkF m 2 #[.val (.ref a), .val (.ref k), .unset] [(.ref k), (.ref a)])) X0 hx rfl rfl rfl (pc0 := 2) (pc' := 7) (same := false) rfl (hb hby dj42m66_2) rfl (decide_eq_false (fun q => absurd (congrArg List.length (own_same (V0.fld 0 rfl 0 rfl rfl) (V0.fld 2 rfl 0 rfl rfl) (Value.ref.inj q) (V0.arr 1 rfl) (V0.arr 3 rfl))) (by simp))) (by decide) (by decide)) ?_
  refine OGets.step (fun _ => XS.aloadN X0.here hx rfl (hb hby dj42m66_7) rfl rfl) ?_
  obtain ⟨T358, X358, e358, st358⟩ := instY X0 hx hZ hown (hw _ (List.mem_of_getElem? (i := 38) rfl)) e0 (Ins.self (V0.exa 2 rfl)) (g := (mkF m 8 #[.val (.ref a), .val (.ref k), .unset] [(.ref k)])) rfl rfl (hb hby dj42m66_8)
  refine OGets.step st358 ?_
  refine OGets.step (fun _ => XS.ifNo X358.here hx rfl (hb hby dj42m66_11) rfl ((if0 _ _).trans (feq (by decide : ¬ ((1 : Int32) = (0 : Int32)))).1)) ?_
  refine OGets.step (fun _ => XS.aloadN X358.here hx rfl (hb hby dj42m66_14) rfl rfl) ?_
  obtain ⟨T360, X360, e360, st360⟩ := castY X358 hx hZ hown (hw _ (List.mem_of_getElem? (i := 38) rfl)) e358 (Ins.self (V0.exa 2 rfl)) (g := (mkF m 15 #[.val (.ref a), .val (.ref k), .unset] [(.ref k)])) rfl rfl (hb hby dj42m66_15)
  refine OGets.step st360 ?_
  refine OGets.step (fun _ => XS.astoreN X360.here hx rfl (hb hby dj42m66_18) rfl rfl (l' := #[.val (.ref a), .val (.ref k), .val (.ref k)]) rfl) ?_
  obtain ⟨T361, X361, e361, st361⟩ := getS2 X360 hx hZ hown (host := "") (Or.inl (hw _ (List.mem_of_getElem? (i := 39) rfl))) Via.refl e360 S0 (g := (mkF m 19 #[.val (.ref a), .val (.ref k), .val (.ref k)] [])) rfl (hb hby dj42m66_19)
  refine OGets.step st361 ?_
  refine OGets.step (fun _ => XS.ifNo X361.here hx rfl (hb hby dj42m66_22) rfl ((if0 _ _).trans (feq (hG : ¬ (G = (0 : Int32)))).1)) ?_
  refine OGets.step (fun _ => XS.aloadN X361.here hx rfl (hb hby dj42m66_25) rfl rfl) ?_
  obtain ⟨T363, X363, e363, st363⟩ := getF X361 hx hZ hown (host := "") (Or.inl (hw _ (List.mem_of_getElem? (i := 27) rfl))) Via.refl e361 (V0.fld 0 rfl 1 rfl rfl) (g := (mkF m 26 #[.val (.ref a), .val (.ref k), .val (.ref k)] [(.ref a)])) rfl rfl (hb hby dj42m66_26)
  refine OGets.step st363 ?_
  refine OGets.step (fun _ => XS.aloadN X363.here hx rfl (hb hby dj42m66_29) rfl rfl) ?_
  obtain ⟨T364, X364, e364, st364⟩ := getF X363 hx hZ hown (host := "") (Or.inl (hw _ (List.mem_of_getElem? (i := 27) rfl))) Via.refl e363 (V0.fld 2 rfl 1 rfl rfl) (g := (mkF m 30 #[.val (.ref a), .val (.ref k), .val (.ref k)] [(.ref k), (.int (0 : Int32))])) rfl rfl (hb hby dj42m66_30)
  refine OGets.step st364 ?_
  refine OGets.step (fun _ => XS.icmpNo X364.here hx rfl (hb hby dj42m66_33) rfl (teq (by decide : (0 : Int32) = (0 : Int32))).2) ?_
  refine OGets.step (fun _ => XS.aloadN X364.here hx rfl (hb hby dj42m66_36) rfl rfl) ?_
  obtain ⟨T366, X366, e366, st366⟩ := getF X364 hx hZ hown (host := "") (Or.inl (hw _ (List.mem_of_getElem? (i := 26) rfl))) Via.refl e364 (V0.fld 0 rfl 0 rfl rfl) (g := (mkF m 37 #[.val (.ref a), .val (.ref k), .val (.ref k)] [(.ref a)])) rfl rfl (hb hby dj42m66_37)
  refine OGets.step st366 ?_
  refine OGets.step (fun _ => XS.aloadN X366.here hx rfl (hb hby dj42m66_40) rfl rfl) ?_
  obtain ⟨T367, X367, e367, st367⟩ := getF X366 hx hZ hown (host := "") (Or.inl (hw _ (List.mem_of_getElem? (i := 26) rfl))) Via.refl e366 (V0.fld 2 rfl 0 rfl rfl) (g := (mkF m 41 #[.val (.ref a), .val (.ref k), .val (.ref k)] [(.ref k), (.ref b)])) rfl rfl (hb hby dj42m66_41)
  refine OGets.step st367 ?_
  have V368_ : ORead Z h0 (((b, Sum.inr (.byte, [])) : Addr × OObj) :: ((d, Sum.inr (.byte, [(.int (46 : Int32)), (.int (46 : Int32))])) : Addr × OObj) :: ((a, Sum.inl ("java/lang/String", ns_String, [(.ref b), (.int (0 : Int32))])) : Addr × OObj) :: ((k, Sum.inl ("java/lang/String", ns_String, [(.ref d), (.int (0 : Int32))])) : Addr × OObj) :: F) := ((V0.bring 3 rfl).bring 2 rfl)
  obtain ⟨_, _, ⟨T368, L368, k368, n368⟩, -, X368, ⟨Lc368, hQ368, l368, y368, z368⟩, st368⟩ := Jvm.LawKit.callS X367 hx (y := (⟨"java/lang/StringLatin1", "equals", "([B[B)Z"⟩ : MethodName)) hown (mvT hZ (hw _ (List.mem_of_getElem? (i := 40) rfl))) (mvT hZ (hw _ (List.mem_of_getElem? (i := 41) rfl))) (mvT hZ (hw _ (List.mem_of_getElem? (i := 42) rfl))) (mvT hZ (hw _ (List.mem_of_getElem? (i := 43) rfl))) (by decide) (backOf (W := 0) (rm_le02 l Z a0 hw [] b d h0 n0 _ Z0  V368_) hZ (hw _ (List.mem_of_getElem? (i := 43) rfl)) (hw _ (List.mem_of_getElem? (i := 42) rfl)) (by decide) (by decide)) (g := (mkF m 44 #[.val (.ref a), .val (.ref k), .val (.ref k)] [(.ref d), (.ref b)])) rfl (by rw [hml]; rfl) (argsL := [(.ref b), (.ref d)]) (rest := []) (lenOf pd_12 rfl) rfl (by show 2 * 0 + _ ≤ _; exact Nat.le_of_eq rfl) (hb hby dj42m66_44) (fun _ _ => ⟨rfl, e367, Nat.le_of_ble_eq_true rfl, Nat.le_of_ble_eq_true rfl⟩)
  dsimp only [Pt.U, Pt.locs, Pt.cells, Pt.slots] at X368 l368 y368 z368 st368 hQ368
  rw [l368, y368, z368] at X368
  obtain ⟨rfl, rfl, e368⟩ := hQ368
  have X368 : Stand p l e _ s m #[(.ref a), (.ref k)] below meth c T368 [] 0 0 := X368
  refine OGets.step st368 ?_
  refine OGets.step (fun _ => XS.ifYes X368.here hx rfl (pc0 := 47) (pc' := 54) rfl (hb hby dj42m66_47) rfl ((if0 _ _).trans (teq (by decide : (0 : Int32) = (0 : Int32))).1) (by decide) (by decide)) ?_
  refine OGets.step (fun _ => XS.iconst X368.here hx rfl (hb hby dj42m66_54)) ?_
  refine OGets.retN X368 hx hlk (t := .boolean) Bd.returns (by simp) (hb hby dj42m66_55) (Nat.le_of_ble_eq_true rfl) (Nat.le_of_ble_eq_true rfl) ?_
  exact ⟨congrArg (fun z => some (Value.int z)) (show _ = (0 : Int32) from by decide), rfl, e368⟩
def f_le1 (y0 : Int32) : Int32 := (if y0 = (46 : Int32) then (1 : Int32) else (0 : Int32))
theorem dj43m13_7 : decode jdk_43_method_13_code 7 = .ok (.iconst 0, 1) := by decide +kernel
theorem dj43m13_8 : decode jdk_43_method_13_code 8 = .ok (.istore_n 2, 1) := by decide +kernel
theorem dj43m13_9 : decode jdk_43_method_13_code 9 = .ok (.iload_n 2, 1) := by decide +kernel
theorem dj43m13_10 : decode jdk_43_method_13_code 10 = .ok (.aload_n 0, 1) := by decide +kernel
theorem dj43m13_11 : decode jdk_43_method_13_code 11 = .ok (.arraylength, 1) := by decide +kernel
theorem dj43m13_12 : decode jdk_43_method_13_code 12 = .ok (.if_icmp .ge 20, 3) := by decide +kernel
theorem dj43m13_15 : decode jdk_43_method_13_code 15 = .ok (.aload_n 0, 1) := by decide +kernel
theorem dj43m13_16 : decode jdk_43_method_13_code 16 = .ok (.iload_n 2, 1) := by decide +kernel
theorem dj43m13_17 : decode jdk_43_method_13_code 17 = .ok (.baload, 1) := by decide +kernel
theorem dj43m13_18 : decode jdk_43_method_13_code 18 = .ok (.aload_n 1, 1) := by decide +kernel
theorem dj43m13_19 : decode jdk_43_method_13_code 19 = .ok (.iload_n 2, 1) := by decide +kernel
theorem dj43m13_20 : decode jdk_43_method_13_code 20 = .ok (.baload, 1) := by decide +kernel
theorem dj43m13_21 : decode jdk_43_method_13_code 21 = .ok (.if_icmp .eq 5, 3) := by decide +kernel
theorem dj43m13_26 : decode jdk_43_method_13_code 26 = .ok (.iinc 2 1, 3) := by decide +kernel
theorem dj43m13_29 : decode jdk_43_method_13_code 29 = .ok (.goto (-20), 3) := by decide +kernel
theorem dj43m13_32 : decode jdk_43_method_13_code 32 = .ok (.iconst 1, 1) := by decide +kernel
theorem dj43m13_33 : decode jdk_43_method_13_code 33 = .ok (.ireturn, 1) := by decide +kernel
theorem dj43m13_24 : decode jdk_43_method_13_code 24 = .ok (.iconst 0, 1) := by decide +kernel
theorem dj43m13_25 : decode jdk_43_method_13_code 25 = .ok (.ireturn, 1) := by decide +kernel
theorem ef_le11 (m : MethodId) (x0 : Addr) (x1 : Addr) : entryFrame m #[(.ref x0), (.ref x1)] 3 = mkF m 0 #[.val (.ref x0), .val (.ref x1), .unset] [] := by first | (simp [entryFrame, mkF, argsToLocals, Value.category]; done) | rfl
def Q_le11 (Z : State) (b : Addr) (d : Addr) (y0 : Int32) (h0 : Heap) (n0 : Nat) (F : List (Addr × OObj)) (v : Option Value) (h : Heap) (L : List Loc) : Prop := v = some (.int (f_le1 y0)) ∧ L = [] ∧ h = h0
set_option maxRecDepth 65536 in
set_option maxHeartbeats 40000000 in
theorem rm_le11 (l : Launch) (Z : State) (a0 : Array Value) (hw : ∀ d ∈ tables_1, d.before a0 Z = true) (ws : List Jvm.Cond) (b : Addr) (d : Addr) (y0 : Int32) (h0 : Heap) (n0 : Nat) (F : List (Addr × OObj)) (Z0 : n0 ≤ h0.size) (V0 : ORead Z h0 (((b, Sum.inr (.byte, [(.int y0)])) : Addr × OObj) :: ((d, Sum.inr (.byte, [(.int (46 : Int32))])) : Addr × OObj) :: F)) :
    MetFree l (⟨"java/lang/StringLatin1", "equals", "([B[B)Z"⟩ : MethodName) (head1 (Jvm.Cond.code (⟨"java/lang/StringLatin1", "equals", "([B[B)Z"⟩ : MethodName) jdk_43_method_13_code 3 (some .boolean) :: ws) ({ frames := 0, cells := 0, slots := 0, locals := 0 } : Room)) (fun a_ U => a_ = #[(.ref b), (.ref d)] ∧ Z.Warmed39 U.vm ∧ U.heap = h0) (fun _ _ _ _ _ => True) (fun _ U o U' => ∃ v L, o = .returned v ∧ Q_le11 Z b d y0 h0 n0 F v U'.heap L ∧ FrameEnd U o U' L ({ frames := 0, cells := 0, slots := 0, locals := 0 } : Room).cells ({ frames := 0, cells := 0, slots := 0, locals := 0 } : Room).slots) := by
  refine MetFree.of_bodySF (plainFor_of_name pn_11) hisR ?_
  intro p e s m args below meth c s₁ Bd hml0 hP hK
  obtain ⟨rfl, hZ, hh⟩ := hP
  have hx := Bd.exec
  have hby := Bd.bytes
  have hlk : meth.locks = false := Bd.notSynchronized
  have hml : c.maxLocals = 3 := hml0
  have hown : s.vm.findClass "java/lang/StringLatin1" = some m.cls := findClass_of_methodNamed Bd.named
  have hnm := (name_of_methodNamed Bd.named Bd.method).1
  have X0 : Stand p l e ({ frames := 0, cells := 0, slots := 0, locals := 0 } : Room) s m #[(.ref b), (.ref d)] below meth c s₁ [] 0 0 := Stand.of_body Bd
  have e0 : s₁.heap = h0 := by rw [← hh, Bd.state]; rfl
  have N0 := Fr.nil n0
  have hv0 : f_le1 y0 = (if y0 = (46 : Int32) then (1 : Int32) else (0 : Int32)) := rfl
  show OGets p e below (OLeaves s (Q_le11 Z b d y0 h0 n0 F ) ({ frames := 0, cells := 0, slots := 0, locals := 0 } : Room).cells ({ frames := 0, cells := 0, slots := 0, locals := 0 } : Room).slots) _
  refine OGets.enter (ef_le11 m b d) ?_
  show OGets p e below _ (s₁.setTop (mkF m 0 #[.val (.ref b), .val (.ref d), .unset] []))
  refine OGets.step (fun _ => XS.aloadN X0.here hx rfl (hb hby dj43m13_0) rfl rfl) ?_
  obtain ⟨cl370, Ar370, S370⟩ := V0.arr 0 rfl
  have ln370 : cl370.slots.size.toInt32 = (1 : Int32) := by rw [own_len S370]; rfl
  refine OGets.step (U' := s₁.setTop (mkF m 2 #[.val (.ref b), .val (.ref d), .unset] [(.int (1 : Int32))])) (fun t kt => ?_) ?_
  · refine X0.arraylength hx (by rw [e0]; exact Ar370.1) (State.isArrayOf_alike hZ.alike Ar370.2.1) (g := (mkF m 1 #[.val (.ref b), .val (.ref d), .unset] [(.ref b)])) rfl rfl (hb hby dj43m13_1) _ ?_
    rw [ln370]; exact kt
  refine OGets.step (fun _ => XS.aloadN X0.here hx rfl (hb hby dj43m13_2) rfl rfl) ?_
  obtain ⟨cl371, Ar371, S371⟩ := V0.arr 1 rfl
  have ln371 : cl371.slots.size.toInt32 = (1 : Int32) := by rw [own_len S371]; rfl
  refine OGets.step (U' := s₁.setTop (mkF m 4 #[.val (.ref b), .val (.ref d), .unset] [(.int (1 : Int32)), (.int (1 : Int32))])) (fun t kt => ?_) ?_
  · refine X0.arraylength hx (by rw [e0]; exact Ar371.1) (State.isArrayOf_alike hZ.alike Ar371.2.1) (g := (mkF m 3 #[.val (.ref b), .val (.ref d), .unset] [(.ref d), (.int (1 : Int32))])) rfl rfl (hb hby dj43m13_3) _ ?_
    rw [ln371]; exact kt
  refine OGets.step (fun _ => XS.icmpNo X0.here hx rfl (hb hby dj43m13_4) rfl (teq (by decide : (1 : Int32) = (1 : Int32))).2) ?_
  refine OGets.step (fun _ => XS.iconst X0.here hx rfl (hb hby dj43m13_7)) ?_
  show OGets p e below _ (s₁.setTop (mkF m 8 #[.val (.ref b), .val (.ref d), .unset] [(.int (0 : Int32))]))
  refine OGets.step (fun _ => XS.istoreN X0.here hx rfl (hb hby dj43m13_8) rfl (l' := #[.val (.ref b), .val (.ref d), .val (.int (0 : Int32))]) rfl) ?_
  refine OGets.step (fun _ => XS.iloadN X0.here hx rfl (hb hby dj43m13_9) rfl) ?_
  refine OGets.step (fun _ => XS.aloadN X0.here hx rfl (hb hby dj43m13_10) rfl rfl) ?_
  obtain ⟨cl373, Ar373, S373⟩ := V0.arr 0 rfl
  have ln373 : cl373.slots.size.toInt32 = (1 : Int32) := by rw [own_len S373]; rfl
  refine OGets.step (U' := s₁.setTop (mkF m 12 #[.val (.ref b), .val (.ref d), .val (.int (0 : Int32))] [(.int (1 : Int32)), (.int (0 : Int32))])) (fun t kt => ?_) ?_
  · refine X0.arraylength hx (by rw [e0]; exact Ar373.1) (State.isArrayOf_alike hZ.alike Ar373.2.1) (g := (mkF m 11 #[.val (.ref b), .val (.ref d), .val (.int (0 : Int32))] [(.ref b), (.int (0 : Int32))])) rfl rfl (hb hby dj43m13_11) _ ?_
    rw [ln373]; exact kt
  refine OGets.step (fun _ => XS.icmpNo X0.here hx rfl (hb hby dj43m13_12) rfl (tlt (by decide : (0 : Int32) < (1 : Int32))).2.1) ?_
  refine OGets.step (fun _ => XS.aloadN X0.here hx rfl (hb hby dj43m13_15) rfl rfl) ?_
  show OGets p e below _ (s₁.setTop (mkF m 16 #[.val (.ref b), .val (.ref d), .val (.int (0 : Int32))] [(.ref b)]))
  refine OGets.step (fun _ => XS.iloadN X0.here hx rfl (hb hby dj43m13_16) rfl) ?_
  obtain ⟨cl375, Ar375, S375⟩ := V0.arr 0 rfl
  refine OGets.step (fun _ => X0.baloadBytes hx (j := (0 : Int32)) (v := (.int y0)) (by rw [e0]; exact Ar375.1) (State.isArrayOf_alike hZ.alike Ar375.2.1) Ar375.2.2 (own_inb S375 0 (by decide) (Nat.le_of_ble_eq_true rfl)) (own_get S375 0 (by decide) rfl) (g := (mkF m 17 #[.val (.ref b), .val (.ref d), .val (.int (0 : Int32))] [(.int (0 : Int32)), (.ref b)])) rfl rfl (hb hby dj43m13_17) _) ?_
  refine OGets.step (fun _ => XS.aloadN X0.here hx rfl (hb hby dj43m13_18) rfl rfl) ?_
  refine OGets.step (fun _ => XS.iloadN X0.here hx rfl (hb hby dj43m13_19) rfl) ?_
  obtain ⟨cl376, Ar376, S376⟩ := V0.arr 1 rfl
  refine OGets.step (fun _ => X0.baloadBytes hx (j := (0 : Int32)) (v := (.int (46 : Int32))) (by rw [e0]; exact Ar376.1) (State.isArrayOf_alike hZ.alike Ar376.2.1) Ar376.2.2 (own_inb S376 0 (by decide) (Nat.le_of_ble_eq_true rfl)) (own_get S376 0 (by decide) rfl) (g := (mkF m 20 #[.val (.ref b), .val (.ref d), .val (.int (0 : Int32))] [(.int (0 : Int32)), (.ref d), (.int y0)])) rfl rfl (hb hby dj43m13_20) _) ?_
  by_cases hc21_377 : y0 = (46 : Int32)
  · refine OGets.step (fun _ => XS.icmpYes X0.here hx rfl (pc0 := 21) (pc' := 26) rfl (hb hby dj43m13_21) rfl (teq hc21_377).1 (by decide) (by decide)) ?_
    have hv378 := hv0.trans (if_pos hc21_377)
    show OGets p e below _ (s₁.setTop (mkF m 26 #[.val (.ref b), .val (.ref d), .val (.int (0 : Int32))] []))
    refine OGets.step (fun _ => XS.iinc X0.here hx rfl (hb hby dj43m13_26) rfl (l' := #[.val (.ref b), .val (.ref d), .val (.int (1 : Int32))]) rfl) ?_
    refine OGets.step (fun _ => XS.goto X0.here hx rfl (pc0 := 29) (pc' := 9) rfl (hb hby dj43m13_29) (by decide) (by decide)) ?_
    refine OGets.step (fun _ => XS.iloadN X0.here hx rfl (hb hby dj43m13_9) rfl) ?_
    refine OGets.step (fun _ => XS.aloadN X0.here hx rfl (hb hby dj43m13_10) rfl rfl) ?_
    obtain ⟨cl379, Ar379, S379⟩ := V0.arr 0 rfl
    have ln379 : cl379.slots.size.toInt32 = (1 : Int32) := by rw [own_len S379]; rfl
    refine OGets.step (U' := s₁.setTop (mkF m 12 #[.val (.ref b), .val (.ref d), .val (.int (1 : Int32))] [(.int (1 : Int32)), (.int (1 : Int32))])) (fun t kt => ?_) ?_
    · refine X0.arraylength hx (by rw [e0]; exact Ar379.1) (State.isArrayOf_alike hZ.alike Ar379.2.1) (g := (mkF m 11 #[.val (.ref b), .val (.ref d), .val (.int (1 : Int32))] [(.ref b), (.int (1 : Int32))])) rfl rfl (hb hby dj43m13_11) _ ?_
      rw [ln379]; exact kt
    refine OGets.step (fun _ => XS.icmpYes X0.here hx rfl (pc0 := 12) (pc' := 32) rfl (hb hby dj43m13_12) rfl (flt (by decide : ¬ ((1 : Int32) < (1 : Int32)))).2.1 (by decide) (by decide)) ?_
    show OGets p e below _ (s₁.setTop (mkF m 32 #[.val (.ref b), .val (.ref d), .val (.int (1 : Int32))] []))
    refine OGets.step (fun _ => XS.iconst X0.here hx rfl (hb hby dj43m13_32)) ?_
    refine OGets.retN X0 hx hlk (t := .boolean) Bd.returns (by simp) (hb hby dj43m13_33) (Nat.le_of_ble_eq_true rfl) (Nat.le_of_ble_eq_true rfl) ?_
    exact ⟨congrArg (fun z => some (Value.int z)) hv378.symm, rfl, e0⟩
  · refine OGets.step (fun _ => XS.icmpNo X0.here hx rfl (hb hby dj43m13_21) rfl (feq hc21_377).1) ?_
    have hv381 := hv0.trans (if_neg hc21_377)
    show OGets p e below _ (s₁.setTop (mkF m 24 #[.val (.ref b), .val (.ref d), .val (.int (0 : Int32))] []))
    refine OGets.step (fun _ => XS.iconst X0.here hx rfl (hb hby dj43m13_24)) ?_
    refine OGets.retN X0 hx hlk (t := .boolean) Bd.returns (by simp) (hb hby dj43m13_25) (Nat.le_of_ble_eq_true rfl) (Nat.le_of_ble_eq_true rfl) ?_
    exact ⟨congrArg (fun z => some (Value.int z)) hv381.symm, rfl, e0⟩
def f_eq1 (y0 : Int32) : Int32 := (if (f_le1 y0) = (0 : Int32) then (0 : Int32) else (1 : Int32))
theorem dj42m66_5 : decode jdk_42_method_66_code 5 = .ok (.iconst 1, 1) := by decide +kernel
theorem dj42m66_6 : decode jdk_42_method_66_code 6 = .ok (.ireturn, 1) := by decide +kernel
theorem dj42m66_50 : decode jdk_42_method_66_code 50 = .ok (.iconst 1, 1) := by decide +kernel
theorem dj42m66_51 : decode jdk_42_method_66_code 51 = .ok (.goto 4, 3) := by decide +kernel
theorem ef_eq11 (m : MethodId) (x0 : Addr) (x1 : Addr) : entryFrame m #[(.ref x0), (.ref x1)] 3 = mkF m 0 #[.val (.ref x0), .val (.ref x1), .unset] [] := by first | (simp [entryFrame, mkF, argsToLocals, Value.category]; done) | rfl
def Q_eq11 (Z : State) (a : Addr) (b : Addr) (k : Addr) (d : Addr) (G : Int32) (y0 : Int32) (h0 : Heap) (n0 : Nat) (F : List (Addr × OObj)) (v : Option Value) (h : Heap) (L : List Loc) : Prop := v = some (.int (f_eq1 y0)) ∧ L = [] ∧ h = h0
set_option maxRecDepth 65536 in
set_option maxHeartbeats 40000000 in
theorem rm_eq11 (l : Launch) (Z : State) (a0 : Array Value) (hw : ∀ d ∈ tables_1, d.before a0 Z = true) (ws : List Jvm.Cond) (a : Addr) (b : Addr) (k : Addr) (d : Addr) (G : Int32) (y0 : Int32) (h0 : Heap) (n0 : Nat) (F : List (Addr × OObj)) (Z0 : n0 ≤ h0.size) (S0 : Sta Z h0 "java/lang/String" "COMPACT_STRINGS" "Z" (.int G)) (hG : ¬ G = (0 : Int32)) (V0 : ORead Z h0 (((a, Sum.inl ("java/lang/String", ns_String, [(.ref b), (.int (0 : Int32))])) : Addr × OObj) :: ((b, Sum.inr (.byte, [(.int y0)])) : Addr × OObj) :: ((k, Sum.inl ("java/lang/String", ns_String, [(.ref d), (.int (0 : Int32))])) : Addr × OObj) :: ((d, Sum.inr (.byte, [(.int (46 : Int32))])) : Addr × OObj) :: F)) :
    MetFree l (⟨"java/lang/String", "equals", "(Ljava/lang/Object;)Z"⟩ : MethodName) (head1 (Jvm.Cond.code (⟨"java/lang/String", "equals", "(Ljava/lang/Object;)Z"⟩ : MethodName) jdk_42_method_66_code 3 (some .boolean) :: ws) ({ frames := 1, cells := 0, slots := 0, locals := 14 } : Room)) (fun a_ U => a_ = #[(.ref a), (.ref k)] ∧ Z.Warmed39 U.vm ∧ U.heap = h0) (fun _ _ _ _ _ => True) (fun _ U o U' => ∃ v L, o = .returned v ∧ Q_eq11 Z a b k d G y0 h0 n0 F v U'.heap L ∧ FrameEnd U o U' L ({ frames := 1, cells := 0, slots := 0, locals := 14 } : Room).cells ({ frames := 1, cells := 0, slots := 0, locals := 14 } : Room).slots) := by
  refine MetFree.of_bodySF (plainFor_of_name pn_8) hisR ?_
  intro p e s m args below meth c s₁ Bd hml0 hP hK
  obtain ⟨rfl, hZ, hh⟩ := hP
  have hx := Bd.exec
  have hby := Bd.bytes
  have hlk : meth.locks = false := Bd.notSynchronized
  have hml : c.maxLocals = 3 := hml0
  have hown : s.vm.findClass "java/lang/String" = some m.cls := findClass_of_methodNamed Bd.named
  have hnm := (name_of_methodNamed Bd.named Bd.method).1
  have X0 : Stand p l e ({ frames := 1, cells := 0, slots := 0, locals := 14 } : Room) s m #[(.ref a), (.ref k)] below meth c s₁ [] 0 0 := Stand.of_body Bd
  have e0 : s₁.heap = h0 := by rw [← hh, Bd.state]; rfl
  have N0 := Fr.nil n0
  have hv0 : f_eq1 y0 = (if (f_le1 y0) = (0 : Int32) then (0 : Int32) else (1 : Int32)) := rfl
  show OGets p e below (OLeaves s (Q_eq11 Z a b k d G y0 h0 n0 F ) ({ frames := 1, cells := 0, slots := 0, locals := 14 } : Room).cells ({ frames := 1, cells := 0, slots := 0, locals := 14 } : Room).slots) _
  refine OGets.enter (ef_eq11 m a k) ?_
  show OGets p e below _ (s₁.setTop (mkF m 0 #[.val (.ref a), .val (.ref k), .unset] []))
  refine OGets.step (fun _ => XS.aloadN X0.here hx rfl (hb hby dj42m66_0) rfl rfl) ?_
  refine OGets.step (fun _ => XS.aloadN X0.here hx rfl (hb hby dj42m66_1) rfl rfl) ?_
  by_cases hq382 : a = k
  · refine OGets.step (fun _ => Jvm.RoadKit.acmp (g := (mkF m 2 #[.val (.ref a), .val (.ref k), .unset] [(.ref k), (.ref a)])) X0 hx rfl rfl rfl (pc0 := 2) (pc' := 5) (same := true) rfl (hb hby dj42m66_2) rfl (decide_eq_true (congrArg Value.ref hq382)) (by decide) (by decide)) ?_
    show OGets p e below _ (s₁.setTop (mkF m 5 #[.val (.ref a), .val (.ref k), .unset] []))
    refine OGets.step (fun _ => XS.iconst X0.here hx rfl (hb hby dj42m66_5)) ?_
    refine OGets.retN X0 hx hlk (t := .boolean) Bd.returns (by simp) (hb hby dj42m66_6) (Nat.le_of_ble_eq_true rfl) (Nat.le_of_ble_eq_true rfl) ?_
    have q := own_same (V0.fld 0 rfl 0 rfl rfl) (V0.fld 2 rfl 0 rfl rfl) hq382 (V0.arr 1 rfl) (V0.arr 3 rfl)
    simp only [List.cons.injEq, Value.int.injEq, and_true] at q
    have q' : f_eq1 y0 = (1 : Int32) := by rw [q]; decide
    exact ⟨congrArg (fun z => some (Value.int z)) q'.symm, rfl, e0⟩
  · refine OGets.step (fun _ => Jvm.RoadKit.acmp (g := (mkF m 2 #[.val (.ref a), .val (.ref k), .unset] [(.ref k), (.ref a)])) X0 hx rfl rfl rfl (pc0 := 2) (pc' := 7) (same := false) rfl (hb hby dj42m66_2) rfl (decide_eq_false (fun q => hq382 (Value.ref.inj q))) (by decide) (by decide)) ?_
    show OGets p e below _ (s₁.setTop (mkF m 7 #[.val (.ref a), .val (.ref k), .unset] []))
    refine OGets.step (fun _ => XS.aloadN X0.here hx rfl (hb hby dj42m66_7) rfl rfl) ?_
    obtain ⟨T383, X383, e383, st383⟩ := instY X0 hx hZ hown (hw _ (List.mem_of_getElem? (i := 38) rfl)) e0 (Ins.self (V0.exa 2 rfl)) (g := (mkF m 8 #[.val (.ref a), .val (.ref k), .unset] [(.ref k)])) rfl rfl (hb hby dj42m66_8)
    refine OGets.step st383 ?_
    refine OGets.step (fun _ => XS.ifNo X383.here hx rfl (hb hby dj42m66_11) rfl ((if0 _ _).trans (feq (by decide : ¬ ((1 : Int32) = (0 : Int32)))).1)) ?_
    refine OGets.step (fun _ => XS.aloadN X383.here hx rfl (hb hby dj42m66_14) rfl rfl) ?_
    obtain ⟨T385, X385, e385, st385⟩ := castY X383 hx hZ hown (hw _ (List.mem_of_getElem? (i := 38) rfl)) e383 (Ins.self (V0.exa 2 rfl)) (g := (mkF m 15 #[.val (.ref a), .val (.ref k), .unset] [(.ref k)])) rfl rfl (hb hby dj42m66_15)
    refine OGets.step st385 ?_
    refine OGets.step (fun _ => XS.astoreN X385.here hx rfl (hb hby dj42m66_18) rfl rfl (l' := #[.val (.ref a), .val (.ref k), .val (.ref k)]) rfl) ?_
    obtain ⟨T386, X386, e386, st386⟩ := getS2 X385 hx hZ hown (host := "") (Or.inl (hw _ (List.mem_of_getElem? (i := 39) rfl))) Via.refl e385 S0 (g := (mkF m 19 #[.val (.ref a), .val (.ref k), .val (.ref k)] [])) rfl (hb hby dj42m66_19)
    refine OGets.step st386 ?_
    refine OGets.step (fun _ => XS.ifNo X386.here hx rfl (hb hby dj42m66_22) rfl ((if0 _ _).trans (feq (hG : ¬ (G = (0 : Int32)))).1)) ?_
    refine OGets.step (fun _ => XS.aloadN X386.here hx rfl (hb hby dj42m66_25) rfl rfl) ?_
    obtain ⟨T388, X388, e388, st388⟩ := getF X386 hx hZ hown (host := "") (Or.inl (hw _ (List.mem_of_getElem? (i := 27) rfl))) Via.refl e386 (V0.fld 0 rfl 1 rfl rfl) (g := (mkF m 26 #[.val (.ref a), .val (.ref k), .val (.ref k)] [(.ref a)])) rfl rfl (hb hby dj42m66_26)
    refine OGets.step st388 ?_
    refine OGets.step (fun _ => XS.aloadN X388.here hx rfl (hb hby dj42m66_29) rfl rfl) ?_
    obtain ⟨T389, X389, e389, st389⟩ := getF X388 hx hZ hown (host := "") (Or.inl (hw _ (List.mem_of_getElem? (i := 27) rfl))) Via.refl e388 (V0.fld 2 rfl 1 rfl rfl) (g := (mkF m 30 #[.val (.ref a), .val (.ref k), .val (.ref k)] [(.ref k), (.int (0 : Int32))])) rfl rfl (hb hby dj42m66_30)
    refine OGets.step st389 ?_
    refine OGets.step (fun _ => XS.icmpNo X389.here hx rfl (hb hby dj42m66_33) rfl (teq (by decide : (0 : Int32) = (0 : Int32))).2) ?_
    refine OGets.step (fun _ => XS.aloadN X389.here hx rfl (hb hby dj42m66_36) rfl rfl) ?_
    obtain ⟨T391, X391, e391, st391⟩ := getF X389 hx hZ hown (host := "") (Or.inl (hw _ (List.mem_of_getElem? (i := 26) rfl))) Via.refl e389 (V0.fld 0 rfl 0 rfl rfl) (g := (mkF m 37 #[.val (.ref a), .val (.ref k), .val (.ref k)] [(.ref a)])) rfl rfl (hb hby dj42m66_37)
    refine OGets.step st391 ?_
    refine OGets.step (fun _ => XS.aloadN X391.here hx rfl (hb hby dj42m66_40) rfl rfl) ?_
    obtain ⟨T392, X392, e392, st392⟩ := getF X391 hx hZ hown (host := "") (Or.inl (hw _ (List.mem_of_getElem? (i := 26) rfl))) Via.refl e391 (V0.fld 2 rfl 0 rfl rfl) (g := (mkF m 41 #[.val (.ref a), .val (.ref k), .val (.ref k)] [(.ref k), (.ref b)])) rfl rfl (hb hby dj42m66_41)
    refine OGets.step st392 ?_
    have V393_ : ORead Z h0 (((b, Sum.inr (.byte, [(.int y0)])) : Addr × OObj) :: ((d, Sum.inr (.byte, [(.int (46 : Int32))])) : Addr × OObj) :: ((a, Sum.inl ("java/lang/String", ns_String, [(.ref b), (.int (0 : Int32))])) : Addr × OObj) :: ((k, Sum.inl ("java/lang/String", ns_String, [(.ref d), (.int (0 : Int32))])) : Addr × OObj) :: F) := ((V0.bring 3 rfl).bring 2 rfl)
    obtain ⟨_, _, ⟨T393, L393, k393, n393⟩, -, X393, ⟨Lc393, hQ393, l393, y393, z393⟩, st393⟩ := Jvm.LawKit.callS X392 hx (y := (⟨"java/lang/StringLatin1", "equals", "([B[B)Z"⟩ : MethodName)) hown (mvT hZ (hw _ (List.mem_of_getElem? (i := 40) rfl))) (mvT hZ (hw _ (List.mem_of_getElem? (i := 41) rfl))) (mvT hZ (hw _ (List.mem_of_getElem? (i := 42) rfl))) (mvT hZ (hw _ (List.mem_of_getElem? (i := 43) rfl))) (by decide) (backOf (W := 0) (rm_le11 l Z a0 hw [] b d y0 h0 n0 _ Z0  V393_) hZ (hw _ (List.mem_of_getElem? (i := 43) rfl)) (hw _ (List.mem_of_getElem? (i := 42) rfl)) (by decide) (by decide)) (g := (mkF m 44 #[.val (.ref a), .val (.ref k), .val (.ref k)] [(.ref d), (.ref b)])) rfl (by rw [hml]; rfl) (argsL := [(.ref b), (.ref d)]) (rest := []) (lenOf pd_12 rfl) rfl (by show 2 * 0 + _ ≤ _; exact Nat.le_of_eq rfl) (hb hby dj42m66_44) (fun _ _ => ⟨rfl, e392, Nat.le_of_ble_eq_true rfl, Nat.le_of_ble_eq_true rfl⟩)
    dsimp only [Pt.U, Pt.locs, Pt.cells, Pt.slots] at X393 l393 y393 z393 st393 hQ393
    rw [l393, y393, z393] at X393
    obtain ⟨rfl, rfl, e393⟩ := hQ393
    have X393 : Stand p l e _ s m #[(.ref a), (.ref k)] below meth c T393 [] 0 0 := X393
    refine OGets.step st393 ?_
    by_cases hc47_394 : (f_le1 y0) = (0 : Int32)
    · refine OGets.step (fun _ => XS.ifYes X393.here hx rfl (pc0 := 47) (pc' := 54) rfl (hb hby dj42m66_47) rfl ((if0 _ _).trans (teq hc47_394).1) (by decide) (by decide)) ?_
      have hv395 := hv0.trans (if_pos hc47_394)
      show OGets p e below _ (T393.setTop (mkF m 54 #[.val (.ref a), .val (.ref k), .val (.ref k)] []))
      refine OGets.step (fun _ => XS.iconst X393.here hx rfl (hb hby dj42m66_54)) ?_
      refine OGets.retN X393 hx hlk (t := .boolean) Bd.returns (by simp) (hb hby dj42m66_55) (Nat.le_of_ble_eq_true rfl) (Nat.le_of_ble_eq_true rfl) ?_
      exact ⟨congrArg (fun z => some (Value.int z)) hv395.symm, rfl, e393⟩
    · refine OGets.step (fun _ => XS.ifNo X393.here hx rfl (hb hby dj42m66_47) rfl ((if0 _ _).trans (feq hc47_394).1)) ?_
      have hv396 := hv0.trans (if_neg hc47_394)
      show OGets p e below _ (T393.setTop (mkF m 50 #[.val (.ref a), .val (.ref k), .val (.ref k)] []))
      refine OGets.step (fun _ => XS.iconst X393.here hx rfl (hb hby dj42m66_50)) ?_
      refine OGets.step (fun _ => XS.goto X393.here hx rfl (pc0 := 51) (pc' := 55) rfl (hb hby dj42m66_51) (by decide) (by decide)) ?_
      refine OGets.retN X393 hx hlk (t := .boolean) Bd.returns (by simp) (hb hby dj42m66_55) (Nat.le_of_ble_eq_true rfl) (Nat.le_of_ble_eq_true rfl) ?_
      exact ⟨congrArg (fun z => some (Value.int z)) hv396.symm, rfl, e393⟩
theorem ef_le12 (m : MethodId) (x0 : Addr) (x1 : Addr) : entryFrame m #[(.ref x0), (.ref x1)] 3 = mkF m 0 #[.val (.ref x0), .val (.ref x1), .unset] [] := by first | (simp [entryFrame, mkF, argsToLocals, Value.category]; done) | rfl
def Q_le12 (Z : State) (b : Addr) (d : Addr) (y0 : Int32) (h0 : Heap) (n0 : Nat) (F : List (Addr × OObj)) (v : Option Value) (h : Heap) (L : List Loc) : Prop := v = some (.int (0 : Int32)) ∧ L = [] ∧ h = h0
set_option maxRecDepth 65536 in
set_option maxHeartbeats 40000000 in
theorem rm_le12 (l : Launch) (Z : State) (a0 : Array Value) (hw : ∀ d ∈ tables_1, d.before a0 Z = true) (ws : List Jvm.Cond) (b : Addr) (d : Addr) (y0 : Int32) (h0 : Heap) (n0 : Nat) (F : List (Addr × OObj)) (Z0 : n0 ≤ h0.size) (V0 : ORead Z h0 (((b, Sum.inr (.byte, [(.int y0)])) : Addr × OObj) :: ((d, Sum.inr (.byte, [(.int (46 : Int32)), (.int (46 : Int32))])) : Addr × OObj) :: F)) :
    MetFree l (⟨"java/lang/StringLatin1", "equals", "([B[B)Z"⟩ : MethodName) (head1 (Jvm.Cond.code (⟨"java/lang/StringLatin1", "equals", "([B[B)Z"⟩ : MethodName) jdk_43_method_13_code 3 (some .boolean) :: ws) ({ frames := 0, cells := 0, slots := 0, locals := 0 } : Room)) (fun a_ U => a_ = #[(.ref b), (.ref d)] ∧ Z.Warmed39 U.vm ∧ U.heap = h0) (fun _ _ _ _ _ => True) (fun _ U o U' => ∃ v L, o = .returned v ∧ Q_le12 Z b d y0 h0 n0 F v U'.heap L ∧ FrameEnd U o U' L ({ frames := 0, cells := 0, slots := 0, locals := 0 } : Room).cells ({ frames := 0, cells := 0, slots := 0, locals := 0 } : Room).slots) := by
  refine MetFree.of_bodySF (plainFor_of_name pn_11) hisR ?_
  intro p e s m args below meth c s₁ Bd hml0 hP hK
  obtain ⟨rfl, hZ, hh⟩ := hP
  have hx := Bd.exec
  have hby := Bd.bytes
  have hlk : meth.locks = false := Bd.notSynchronized
  have hml : c.maxLocals = 3 := hml0
  have hown : s.vm.findClass "java/lang/StringLatin1" = some m.cls := findClass_of_methodNamed Bd.named
  have hnm := (name_of_methodNamed Bd.named Bd.method).1
  have X0 : Stand p l e ({ frames := 0, cells := 0, slots := 0, locals := 0 } : Room) s m #[(.ref b), (.ref d)] below meth c s₁ [] 0 0 := Stand.of_body Bd
  have e0 : s₁.heap = h0 := by rw [← hh, Bd.state]; rfl
  have N0 := Fr.nil n0
  show OGets p e below (OLeaves s (Q_le12 Z b d y0 h0 n0 F ) ({ frames := 0, cells := 0, slots := 0, locals := 0 } : Room).cells ({ frames := 0, cells := 0, slots := 0, locals := 0 } : Room).slots) _
  refine OGets.enter (ef_le12 m b d) ?_
  show OGets p e below _ (s₁.setTop (mkF m 0 #[.val (.ref b), .val (.ref d), .unset] []))
  refine OGets.step (fun _ => XS.aloadN X0.here hx rfl (hb hby dj43m13_0) rfl rfl) ?_
  obtain ⟨cl397, Ar397, S397⟩ := V0.arr 0 rfl
  have ln397 : cl397.slots.size.toInt32 = (1 : Int32) := by rw [own_len S397]; rfl
  refine OGets.step (U' := s₁.setTop (mkF m 2 #[.val (.ref b), .val (.ref d), .unset] [(.int (1 : Int32))])) (fun t kt => ?_) ?_
  · refine X0.arraylength hx (by rw [e0]; exact Ar397.1) (State.isArrayOf_alike hZ.alike Ar397.2.1) (g := (mkF m 1 #[.val (.ref b), .val (.ref d), .unset] [(.ref b)])) rfl rfl (hb hby dj43m13_1) _ ?_
    rw [ln397]; exact kt
  refine OGets.step (fun _ => XS.aloadN X0.here hx rfl (hb hby dj43m13_2) rfl rfl) ?_
  obtain ⟨cl398, Ar398, S398⟩ := V0.arr 1 rfl
  have ln398 : cl398.slots.size.toInt32 = (2 : Int32) := by rw [own_len S398]; rfl
  refine OGets.step (U' := s₁.setTop (mkF m 4 #[.val (.ref b), .val (.ref d), .unset] [(.int (2 : Int32)), (.int (1 : Int32))])) (fun t kt => ?_) ?_
  · refine X0.arraylength hx (by rw [e0]; exact Ar398.1) (State.isArrayOf_alike hZ.alike Ar398.2.1) (g := (mkF m 3 #[.val (.ref b), .val (.ref d), .unset] [(.ref d), (.int (1 : Int32))])) rfl rfl (hb hby dj43m13_3) _ ?_
    rw [ln398]; exact kt
  refine OGets.step (fun _ => XS.icmpYes X0.here hx rfl (pc0 := 4) (pc' := 34) rfl (hb hby dj43m13_4) rfl (feq (by decide : ¬ ((1 : Int32) = (2 : Int32)))).2 (by decide) (by decide)) ?_
  refine OGets.step (fun _ => XS.iconst X0.here hx rfl (hb hby dj43m13_34)) ?_
  show OGets p e below _ (s₁.setTop (mkF m 35 #[.val (.ref b), .val (.ref d), .unset] [(.int (0 : Int32))]))
  refine OGets.retN X0 hx hlk (t := .boolean) Bd.returns (by simp) (hb hby dj43m13_35) (Nat.le_of_ble_eq_true rfl) (Nat.le_of_ble_eq_true rfl) ?_
  exact ⟨congrArg (fun z => some (Value.int z)) (show _ = (0 : Int32) from by decide), rfl, e0⟩
theorem ef_eq12 (m : MethodId) (x0 : Addr) (x1 : Addr) : entryFrame m #[(.ref x0), (.ref x1)] 3 = mkF m 0 #[.val (.ref x0), .val (.ref x1), .unset] [] := by first | (simp [entryFrame, mkF, argsToLocals, Value.category]; done) | rfl
def Q_eq12 (Z : State) (a : Addr) (b : Addr) (k : Addr) (d : Addr) (G : Int32) (y0 : Int32) (h0 : Heap) (n0 : Nat) (F : List (Addr × OObj)) (v : Option Value) (h : Heap) (L : List Loc) : Prop := v = some (.int (0 : Int32)) ∧ L = [] ∧ h = h0
set_option maxRecDepth 65536 in
set_option maxHeartbeats 40000000 in
theorem rm_eq12 (l : Launch) (Z : State) (a0 : Array Value) (hw : ∀ d ∈ tables_1, d.before a0 Z = true) (ws : List Jvm.Cond) (a : Addr) (b : Addr) (k : Addr) (d : Addr) (G : Int32) (y0 : Int32) (h0 : Heap) (n0 : Nat) (F : List (Addr × OObj)) (Z0 : n0 ≤ h0.size) (S0 : Sta Z h0 "java/lang/String" "COMPACT_STRINGS" "Z" (.int G)) (hG : ¬ G = (0 : Int32)) (V0 : ORead Z h0 (((a, Sum.inl ("java/lang/String", ns_String, [(.ref b), (.int (0 : Int32))])) : Addr × OObj) :: ((b, Sum.inr (.byte, [(.int y0)])) : Addr × OObj) :: ((k, Sum.inl ("java/lang/String", ns_String, [(.ref d), (.int (0 : Int32))])) : Addr × OObj) :: ((d, Sum.inr (.byte, [(.int (46 : Int32)), (.int (46 : Int32))])) : Addr × OObj) :: F)) :
    MetFree l (⟨"java/lang/String", "equals", "(Ljava/lang/Object;)Z"⟩ : MethodName) (head1 (Jvm.Cond.code (⟨"java/lang/String", "equals", "(Ljava/lang/Object;)Z"⟩ : MethodName) jdk_42_method_66_code 3 (some .boolean) :: ws) ({ frames := 1, cells := 0, slots := 0, locals := 14 } : Room)) (fun a_ U => a_ = #[(.ref a), (.ref k)] ∧ Z.Warmed39 U.vm ∧ U.heap = h0) (fun _ _ _ _ _ => True) (fun _ U o U' => ∃ v L, o = .returned v ∧ Q_eq12 Z a b k d G y0 h0 n0 F v U'.heap L ∧ FrameEnd U o U' L ({ frames := 1, cells := 0, slots := 0, locals := 14 } : Room).cells ({ frames := 1, cells := 0, slots := 0, locals := 14 } : Room).slots) := by
  refine MetFree.of_bodySF (plainFor_of_name pn_8) hisR ?_
  intro p e s m args below meth c s₁ Bd hml0 hP hK
  obtain ⟨rfl, hZ, hh⟩ := hP
  have hx := Bd.exec
  have hby := Bd.bytes
  have hlk : meth.locks = false := Bd.notSynchronized
  have hml : c.maxLocals = 3 := hml0
  have hown : s.vm.findClass "java/lang/String" = some m.cls := findClass_of_methodNamed Bd.named
  have hnm := (name_of_methodNamed Bd.named Bd.method).1
  have X0 : Stand p l e ({ frames := 1, cells := 0, slots := 0, locals := 14 } : Room) s m #[(.ref a), (.ref k)] below meth c s₁ [] 0 0 := Stand.of_body Bd
  have e0 : s₁.heap = h0 := by rw [← hh, Bd.state]; rfl
  have N0 := Fr.nil n0
  show OGets p e below (OLeaves s (Q_eq12 Z a b k d G y0 h0 n0 F ) ({ frames := 1, cells := 0, slots := 0, locals := 14 } : Room).cells ({ frames := 1, cells := 0, slots := 0, locals := 14 } : Room).slots) _
  refine OGets.enter (ef_eq12 m a k) ?_
  show OGets p e below _ (s₁.setTop (mkF m 0 #[.val (.ref a), .val (.ref k), .unset] []))
  refine OGets.step (fun _ => XS.aloadN X0.here hx rfl (hb hby dj42m66_0) rfl rfl) ?_
  refine OGets.step (fun _ => XS.aloadN X0.here hx rfl (hb hby dj42m66_1) rfl rfl) ?_
  refine OGets.step (fun _ => Jvm.RoadKit.acmp (g := (mkF m 2 #[.val (.ref a), .val (.ref k), .unset] [(.ref k), (.ref a)])) X0 hx rfl rfl rfl (pc0 := 2) (pc' := 7) (same := false) rfl (hb hby dj42m66_2) rfl (decide_eq_false (fun q => absurd (congrArg List.length (own_same (V0.fld 0 rfl 0 rfl rfl) (V0.fld 2 rfl 0 rfl rfl) (Value.ref.inj q) (V0.arr 1 rfl) (V0.arr 3 rfl))) (by simp))) (by decide) (by decide)) ?_
  refine OGets.step (fun _ => XS.aloadN X0.here hx rfl (hb hby dj42m66_7) rfl rfl) ?_
  obtain ⟨T400, X400, e400, st400⟩ := instY X0 hx hZ hown (hw _ (List.mem_of_getElem? (i := 38) rfl)) e0 (Ins.self (V0.exa 2 rfl)) (g := (mkF m 8 #[.val (.ref a), .val (.ref k), .unset] [(.ref k)])) rfl rfl (hb hby dj42m66_8)
  refine OGets.step st400 ?_
  refine OGets.step (fun _ => XS.ifNo X400.here hx rfl (hb hby dj42m66_11) rfl ((if0 _ _).trans (feq (by decide : ¬ ((1 : Int32) = (0 : Int32)))).1)) ?_
  refine OGets.step (fun _ => XS.aloadN X400.here hx rfl (hb hby dj42m66_14) rfl rfl) ?_
  obtain ⟨T402, X402, e402, st402⟩ := castY X400 hx hZ hown (hw _ (List.mem_of_getElem? (i := 38) rfl)) e400 (Ins.self (V0.exa 2 rfl)) (g := (mkF m 15 #[.val (.ref a), .val (.ref k), .unset] [(.ref k)])) rfl rfl (hb hby dj42m66_15)
  refine OGets.step st402 ?_
  refine OGets.step (fun _ => XS.astoreN X402.here hx rfl (hb hby dj42m66_18) rfl rfl (l' := #[.val (.ref a), .val (.ref k), .val (.ref k)]) rfl) ?_
  obtain ⟨T403, X403, e403, st403⟩ := getS2 X402 hx hZ hown (host := "") (Or.inl (hw _ (List.mem_of_getElem? (i := 39) rfl))) Via.refl e402 S0 (g := (mkF m 19 #[.val (.ref a), .val (.ref k), .val (.ref k)] [])) rfl (hb hby dj42m66_19)
  refine OGets.step st403 ?_
  refine OGets.step (fun _ => XS.ifNo X403.here hx rfl (hb hby dj42m66_22) rfl ((if0 _ _).trans (feq (hG : ¬ (G = (0 : Int32)))).1)) ?_
  refine OGets.step (fun _ => XS.aloadN X403.here hx rfl (hb hby dj42m66_25) rfl rfl) ?_
  obtain ⟨T405, X405, e405, st405⟩ := getF X403 hx hZ hown (host := "") (Or.inl (hw _ (List.mem_of_getElem? (i := 27) rfl))) Via.refl e403 (V0.fld 0 rfl 1 rfl rfl) (g := (mkF m 26 #[.val (.ref a), .val (.ref k), .val (.ref k)] [(.ref a)])) rfl rfl (hb hby dj42m66_26)
  refine OGets.step st405 ?_
  refine OGets.step (fun _ => XS.aloadN X405.here hx rfl (hb hby dj42m66_29) rfl rfl) ?_
  obtain ⟨T406, X406, e406, st406⟩ := getF X405 hx hZ hown (host := "") (Or.inl (hw _ (List.mem_of_getElem? (i := 27) rfl))) Via.refl e405 (V0.fld 2 rfl 1 rfl rfl) (g := (mkF m 30 #[.val (.ref a), .val (.ref k), .val (.ref k)] [(.ref k), (.int (0 : Int32))])) rfl rfl (hb hby dj42m66_30)
  refine OGets.step st406 ?_
  refine OGets.step (fun _ => XS.icmpNo X406.here hx rfl (hb hby dj42m66_33) rfl (teq (by decide : (0 : Int32) = (0 : Int32))).2) ?_
  refine OGets.step (fun _ => XS.aloadN X406.here hx rfl (hb hby dj42m66_36) rfl rfl) ?_
  obtain ⟨T408, X408, e408, st408⟩ := getF X406 hx hZ hown (host := "") (Or.inl (hw _ (List.mem_of_getElem? (i := 26) rfl))) Via.refl e406 (V0.fld 0 rfl 0 rfl rfl) (g := (mkF m 37 #[.val (.ref a), .val (.ref k), .val (.ref k)] [(.ref a)])) rfl rfl (hb hby dj42m66_37)
  refine OGets.step st408 ?_
  refine OGets.step (fun _ => XS.aloadN X408.here hx rfl (hb hby dj42m66_40) rfl rfl) ?_
  obtain ⟨T409, X409, e409, st409⟩ := getF X408 hx hZ hown (host := "") (Or.inl (hw _ (List.mem_of_getElem? (i := 26) rfl))) Via.refl e408 (V0.fld 2 rfl 0 rfl rfl) (g := (mkF m 41 #[.val (.ref a), .val (.ref k), .val (.ref k)] [(.ref k), (.ref b)])) rfl rfl (hb hby dj42m66_41)
  refine OGets.step st409 ?_
  have V410_ : ORead Z h0 (((b, Sum.inr (.byte, [(.int y0)])) : Addr × OObj) :: ((d, Sum.inr (.byte, [(.int (46 : Int32)), (.int (46 : Int32))])) : Addr × OObj) :: ((a, Sum.inl ("java/lang/String", ns_String, [(.ref b), (.int (0 : Int32))])) : Addr × OObj) :: ((k, Sum.inl ("java/lang/String", ns_String, [(.ref d), (.int (0 : Int32))])) : Addr × OObj) :: F) := ((V0.bring 3 rfl).bring 2 rfl)
  obtain ⟨_, _, ⟨T410, L410, k410, n410⟩, -, X410, ⟨Lc410, hQ410, l410, y410, z410⟩, st410⟩ := Jvm.LawKit.callS X409 hx (y := (⟨"java/lang/StringLatin1", "equals", "([B[B)Z"⟩ : MethodName)) hown (mvT hZ (hw _ (List.mem_of_getElem? (i := 40) rfl))) (mvT hZ (hw _ (List.mem_of_getElem? (i := 41) rfl))) (mvT hZ (hw _ (List.mem_of_getElem? (i := 42) rfl))) (mvT hZ (hw _ (List.mem_of_getElem? (i := 43) rfl))) (by decide) (backOf (W := 0) (rm_le12 l Z a0 hw [] b d y0 h0 n0 _ Z0  V410_) hZ (hw _ (List.mem_of_getElem? (i := 43) rfl)) (hw _ (List.mem_of_getElem? (i := 42) rfl)) (by decide) (by decide)) (g := (mkF m 44 #[.val (.ref a), .val (.ref k), .val (.ref k)] [(.ref d), (.ref b)])) rfl (by rw [hml]; rfl) (argsL := [(.ref b), (.ref d)]) (rest := []) (lenOf pd_12 rfl) rfl (by show 2 * 0 + _ ≤ _; exact Nat.le_of_eq rfl) (hb hby dj42m66_44) (fun _ _ => ⟨rfl, e409, Nat.le_of_ble_eq_true rfl, Nat.le_of_ble_eq_true rfl⟩)
  dsimp only [Pt.U, Pt.locs, Pt.cells, Pt.slots] at X410 l410 y410 z410 st410 hQ410
  rw [l410, y410, z410] at X410
  obtain ⟨rfl, rfl, e410⟩ := hQ410
  have X410 : Stand p l e _ s m #[(.ref a), (.ref k)] below meth c T410 [] 0 0 := X410
  refine OGets.step st410 ?_
  refine OGets.step (fun _ => XS.ifYes X410.here hx rfl (pc0 := 47) (pc' := 54) rfl (hb hby dj42m66_47) rfl ((if0 _ _).trans (teq (by decide : (0 : Int32) = (0 : Int32))).1) (by decide) (by decide)) ?_
  refine OGets.step (fun _ => XS.iconst X410.here hx rfl (hb hby dj42m66_54)) ?_
  refine OGets.retN X410 hx hlk (t := .boolean) Bd.returns (by simp) (hb hby dj42m66_55) (Nat.le_of_ble_eq_true rfl) (Nat.le_of_ble_eq_true rfl) ?_
  exact ⟨congrArg (fun z => some (Value.int z)) (show _ = (0 : Int32) from by decide), rfl, e410⟩
theorem ef_le21 (m : MethodId) (x0 : Addr) (x1 : Addr) : entryFrame m #[(.ref x0), (.ref x1)] 3 = mkF m 0 #[.val (.ref x0), .val (.ref x1), .unset] [] := by first | (simp [entryFrame, mkF, argsToLocals, Value.category]; done) | rfl
def Q_le21 (Z : State) (b : Addr) (d : Addr) (y0 : Int32) (y1 : Int32) (h0 : Heap) (n0 : Nat) (F : List (Addr × OObj)) (v : Option Value) (h : Heap) (L : List Loc) : Prop := v = some (.int (0 : Int32)) ∧ L = [] ∧ h = h0
set_option maxRecDepth 65536 in
set_option maxHeartbeats 40000000 in
theorem rm_le21 (l : Launch) (Z : State) (a0 : Array Value) (hw : ∀ d ∈ tables_1, d.before a0 Z = true) (ws : List Jvm.Cond) (b : Addr) (d : Addr) (y0 : Int32) (y1 : Int32) (h0 : Heap) (n0 : Nat) (F : List (Addr × OObj)) (Z0 : n0 ≤ h0.size) (V0 : ORead Z h0 (((b, Sum.inr (.byte, [(.int y0), (.int y1)])) : Addr × OObj) :: ((d, Sum.inr (.byte, [(.int (46 : Int32))])) : Addr × OObj) :: F)) :
    MetFree l (⟨"java/lang/StringLatin1", "equals", "([B[B)Z"⟩ : MethodName) (head1 (Jvm.Cond.code (⟨"java/lang/StringLatin1", "equals", "([B[B)Z"⟩ : MethodName) jdk_43_method_13_code 3 (some .boolean) :: ws) ({ frames := 0, cells := 0, slots := 0, locals := 0 } : Room)) (fun a_ U => a_ = #[(.ref b), (.ref d)] ∧ Z.Warmed39 U.vm ∧ U.heap = h0) (fun _ _ _ _ _ => True) (fun _ U o U' => ∃ v L, o = .returned v ∧ Q_le21 Z b d y0 y1 h0 n0 F v U'.heap L ∧ FrameEnd U o U' L ({ frames := 0, cells := 0, slots := 0, locals := 0 } : Room).cells ({ frames := 0, cells := 0, slots := 0, locals := 0 } : Room).slots) := by
  refine MetFree.of_bodySF (plainFor_of_name pn_11) hisR ?_
  intro p e s m args below meth c s₁ Bd hml0 hP hK
  obtain ⟨rfl, hZ, hh⟩ := hP
  have hx := Bd.exec
  have hby := Bd.bytes
  have hlk : meth.locks = false := Bd.notSynchronized
  have hml : c.maxLocals = 3 := hml0
  have hown : s.vm.findClass "java/lang/StringLatin1" = some m.cls := findClass_of_methodNamed Bd.named
  have hnm := (name_of_methodNamed Bd.named Bd.method).1
  have X0 : Stand p l e ({ frames := 0, cells := 0, slots := 0, locals := 0 } : Room) s m #[(.ref b), (.ref d)] below meth c s₁ [] 0 0 := Stand.of_body Bd
  have e0 : s₁.heap = h0 := by rw [← hh, Bd.state]; rfl
  have N0 := Fr.nil n0
  show OGets p e below (OLeaves s (Q_le21 Z b d y0 y1 h0 n0 F ) ({ frames := 0, cells := 0, slots := 0, locals := 0 } : Room).cells ({ frames := 0, cells := 0, slots := 0, locals := 0 } : Room).slots) _
  refine OGets.enter (ef_le21 m b d) ?_
  show OGets p e below _ (s₁.setTop (mkF m 0 #[.val (.ref b), .val (.ref d), .unset] []))
  refine OGets.step (fun _ => XS.aloadN X0.here hx rfl (hb hby dj43m13_0) rfl rfl) ?_
  obtain ⟨cl412, Ar412, S412⟩ := V0.arr 0 rfl
  have ln412 : cl412.slots.size.toInt32 = (2 : Int32) := by rw [own_len S412]; rfl
  refine OGets.step (U' := s₁.setTop (mkF m 2 #[.val (.ref b), .val (.ref d), .unset] [(.int (2 : Int32))])) (fun t kt => ?_) ?_
  · refine X0.arraylength hx (by rw [e0]; exact Ar412.1) (State.isArrayOf_alike hZ.alike Ar412.2.1) (g := (mkF m 1 #[.val (.ref b), .val (.ref d), .unset] [(.ref b)])) rfl rfl (hb hby dj43m13_1) _ ?_
    rw [ln412]; exact kt
  refine OGets.step (fun _ => XS.aloadN X0.here hx rfl (hb hby dj43m13_2) rfl rfl) ?_
  obtain ⟨cl413, Ar413, S413⟩ := V0.arr 1 rfl
  have ln413 : cl413.slots.size.toInt32 = (1 : Int32) := by rw [own_len S413]; rfl
  refine OGets.step (U' := s₁.setTop (mkF m 4 #[.val (.ref b), .val (.ref d), .unset] [(.int (1 : Int32)), (.int (2 : Int32))])) (fun t kt => ?_) ?_
  · refine X0.arraylength hx (by rw [e0]; exact Ar413.1) (State.isArrayOf_alike hZ.alike Ar413.2.1) (g := (mkF m 3 #[.val (.ref b), .val (.ref d), .unset] [(.ref d), (.int (2 : Int32))])) rfl rfl (hb hby dj43m13_3) _ ?_
    rw [ln413]; exact kt
  refine OGets.step (fun _ => XS.icmpYes X0.here hx rfl (pc0 := 4) (pc' := 34) rfl (hb hby dj43m13_4) rfl (feq (by decide : ¬ ((2 : Int32) = (1 : Int32)))).2 (by decide) (by decide)) ?_
  refine OGets.step (fun _ => XS.iconst X0.here hx rfl (hb hby dj43m13_34)) ?_
  show OGets p e below _ (s₁.setTop (mkF m 35 #[.val (.ref b), .val (.ref d), .unset] [(.int (0 : Int32))]))
  refine OGets.retN X0 hx hlk (t := .boolean) Bd.returns (by simp) (hb hby dj43m13_35) (Nat.le_of_ble_eq_true rfl) (Nat.le_of_ble_eq_true rfl) ?_
  exact ⟨congrArg (fun z => some (Value.int z)) (show _ = (0 : Int32) from by decide), rfl, e0⟩
theorem ef_eq21 (m : MethodId) (x0 : Addr) (x1 : Addr) : entryFrame m #[(.ref x0), (.ref x1)] 3 = mkF m 0 #[.val (.ref x0), .val (.ref x1), .unset] [] := by first | (simp [entryFrame, mkF, argsToLocals, Value.category]; done) | rfl
def Q_eq21 (Z : State) (a : Addr) (b : Addr) (k : Addr) (d : Addr) (G : Int32) (y0 : Int32) (y1 : Int32) (h0 : Heap) (n0 : Nat) (F : List (Addr × OObj)) (v : Option Value) (h : Heap) (L : List Loc) : Prop := v = some (.int (0 : Int32)) ∧ L = [] ∧ h = h0
set_option maxRecDepth 65536 in
set_option maxHeartbeats 40000000 in
theorem rm_eq21 (l : Launch) (Z : State) (a0 : Array Value) (hw : ∀ d ∈ tables_1, d.before a0 Z = true) (ws : List Jvm.Cond) (a : Addr) (b : Addr) (k : Addr) (d : Addr) (G : Int32) (y0 : Int32) (y1 : Int32) (h0 : Heap) (n0 : Nat) (F : List (Addr × OObj)) (Z0 : n0 ≤ h0.size) (S0 : Sta Z h0 "java/lang/String" "COMPACT_STRINGS" "Z" (.int G)) (hG : ¬ G = (0 : Int32)) (V0 : ORead Z h0 (((a, Sum.inl ("java/lang/String", ns_String, [(.ref b), (.int (0 : Int32))])) : Addr × OObj) :: ((b, Sum.inr (.byte, [(.int y0), (.int y1)])) : Addr × OObj) :: ((k, Sum.inl ("java/lang/String", ns_String, [(.ref d), (.int (0 : Int32))])) : Addr × OObj) :: ((d, Sum.inr (.byte, [(.int (46 : Int32))])) : Addr × OObj) :: F)) :
    MetFree l (⟨"java/lang/String", "equals", "(Ljava/lang/Object;)Z"⟩ : MethodName) (head1 (Jvm.Cond.code (⟨"java/lang/String", "equals", "(Ljava/lang/Object;)Z"⟩ : MethodName) jdk_42_method_66_code 3 (some .boolean) :: ws) ({ frames := 1, cells := 0, slots := 0, locals := 14 } : Room)) (fun a_ U => a_ = #[(.ref a), (.ref k)] ∧ Z.Warmed39 U.vm ∧ U.heap = h0) (fun _ _ _ _ _ => True) (fun _ U o U' => ∃ v L, o = .returned v ∧ Q_eq21 Z a b k d G y0 y1 h0 n0 F v U'.heap L ∧ FrameEnd U o U' L ({ frames := 1, cells := 0, slots := 0, locals := 14 } : Room).cells ({ frames := 1, cells := 0, slots := 0, locals := 14 } : Room).slots) := by
  refine MetFree.of_bodySF (plainFor_of_name pn_8) hisR ?_
  intro p e s m args below meth c s₁ Bd hml0 hP hK
  obtain ⟨rfl, hZ, hh⟩ := hP
  have hx := Bd.exec
  have hby := Bd.bytes
  have hlk : meth.locks = false := Bd.notSynchronized
  have hml : c.maxLocals = 3 := hml0
  have hown : s.vm.findClass "java/lang/String" = some m.cls := findClass_of_methodNamed Bd.named
  have hnm := (name_of_methodNamed Bd.named Bd.method).1
  have X0 : Stand p l e ({ frames := 1, cells := 0, slots := 0, locals := 14 } : Room) s m #[(.ref a), (.ref k)] below meth c s₁ [] 0 0 := Stand.of_body Bd
  have e0 : s₁.heap = h0 := by rw [← hh, Bd.state]; rfl
  have N0 := Fr.nil n0
  show OGets p e below (OLeaves s (Q_eq21 Z a b k d G y0 y1 h0 n0 F ) ({ frames := 1, cells := 0, slots := 0, locals := 14 } : Room).cells ({ frames := 1, cells := 0, slots := 0, locals := 14 } : Room).slots) _
  refine OGets.enter (ef_eq21 m a k) ?_
  show OGets p e below _ (s₁.setTop (mkF m 0 #[.val (.ref a), .val (.ref k), .unset] []))
  refine OGets.step (fun _ => XS.aloadN X0.here hx rfl (hb hby dj42m66_0) rfl rfl) ?_
  refine OGets.step (fun _ => XS.aloadN X0.here hx rfl (hb hby dj42m66_1) rfl rfl) ?_
  refine OGets.step (fun _ => Jvm.RoadKit.acmp (g := (mkF m 2 #[.val (.ref a), .val (.ref k), .unset] [(.ref k), (.ref a)])) X0 hx rfl rfl rfl (pc0 := 2) (pc' := 7) (same := false) rfl (hb hby dj42m66_2) rfl (decide_eq_false (fun q => absurd (congrArg List.length (own_same (V0.fld 0 rfl 0 rfl rfl) (V0.fld 2 rfl 0 rfl rfl) (Value.ref.inj q) (V0.arr 1 rfl) (V0.arr 3 rfl))) (by simp))) (by decide) (by decide)) ?_
  refine OGets.step (fun _ => XS.aloadN X0.here hx rfl (hb hby dj42m66_7) rfl rfl) ?_
  obtain ⟨T415, X415, e415, st415⟩ := instY X0 hx hZ hown (hw _ (List.mem_of_getElem? (i := 38) rfl)) e0 (Ins.self (V0.exa 2 rfl)) (g := (mkF m 8 #[.val (.ref a), .val (.ref k), .unset] [(.ref k)])) rfl rfl (hb hby dj42m66_8)
  refine OGets.step st415 ?_
  refine OGets.step (fun _ => XS.ifNo X415.here hx rfl (hb hby dj42m66_11) rfl ((if0 _ _).trans (feq (by decide : ¬ ((1 : Int32) = (0 : Int32)))).1)) ?_
  refine OGets.step (fun _ => XS.aloadN X415.here hx rfl (hb hby dj42m66_14) rfl rfl) ?_
  obtain ⟨T417, X417, e417, st417⟩ := castY X415 hx hZ hown (hw _ (List.mem_of_getElem? (i := 38) rfl)) e415 (Ins.self (V0.exa 2 rfl)) (g := (mkF m 15 #[.val (.ref a), .val (.ref k), .unset] [(.ref k)])) rfl rfl (hb hby dj42m66_15)
  refine OGets.step st417 ?_
  refine OGets.step (fun _ => XS.astoreN X417.here hx rfl (hb hby dj42m66_18) rfl rfl (l' := #[.val (.ref a), .val (.ref k), .val (.ref k)]) rfl) ?_
  obtain ⟨T418, X418, e418, st418⟩ := getS2 X417 hx hZ hown (host := "") (Or.inl (hw _ (List.mem_of_getElem? (i := 39) rfl))) Via.refl e417 S0 (g := (mkF m 19 #[.val (.ref a), .val (.ref k), .val (.ref k)] [])) rfl (hb hby dj42m66_19)
  refine OGets.step st418 ?_
  refine OGets.step (fun _ => XS.ifNo X418.here hx rfl (hb hby dj42m66_22) rfl ((if0 _ _).trans (feq (hG : ¬ (G = (0 : Int32)))).1)) ?_
  refine OGets.step (fun _ => XS.aloadN X418.here hx rfl (hb hby dj42m66_25) rfl rfl) ?_
  obtain ⟨T420, X420, e420, st420⟩ := getF X418 hx hZ hown (host := "") (Or.inl (hw _ (List.mem_of_getElem? (i := 27) rfl))) Via.refl e418 (V0.fld 0 rfl 1 rfl rfl) (g := (mkF m 26 #[.val (.ref a), .val (.ref k), .val (.ref k)] [(.ref a)])) rfl rfl (hb hby dj42m66_26)
  refine OGets.step st420 ?_
  refine OGets.step (fun _ => XS.aloadN X420.here hx rfl (hb hby dj42m66_29) rfl rfl) ?_
  obtain ⟨T421, X421, e421, st421⟩ := getF X420 hx hZ hown (host := "") (Or.inl (hw _ (List.mem_of_getElem? (i := 27) rfl))) Via.refl e420 (V0.fld 2 rfl 1 rfl rfl) (g := (mkF m 30 #[.val (.ref a), .val (.ref k), .val (.ref k)] [(.ref k), (.int (0 : Int32))])) rfl rfl (hb hby dj42m66_30)
  refine OGets.step st421 ?_
  refine OGets.step (fun _ => XS.icmpNo X421.here hx rfl (hb hby dj42m66_33) rfl (teq (by decide : (0 : Int32) = (0 : Int32))).2) ?_
  refine OGets.step (fun _ => XS.aloadN X421.here hx rfl (hb hby dj42m66_36) rfl rfl) ?_
  obtain ⟨T423, X423, e423, st423⟩ := getF X421 hx hZ hown (host := "") (Or.inl (hw _ (List.mem_of_getElem? (i := 26) rfl))) Via.refl e421 (V0.fld 0 rfl 0 rfl rfl) (g := (mkF m 37 #[.val (.ref a), .val (.ref k), .val (.ref k)] [(.ref a)])) rfl rfl (hb hby dj42m66_37)
  refine OGets.step st423 ?_
  refine OGets.step (fun _ => XS.aloadN X423.here hx rfl (hb hby dj42m66_40) rfl rfl) ?_
  obtain ⟨T424, X424, e424, st424⟩ := getF X423 hx hZ hown (host := "") (Or.inl (hw _ (List.mem_of_getElem? (i := 26) rfl))) Via.refl e423 (V0.fld 2 rfl 0 rfl rfl) (g := (mkF m 41 #[.val (.ref a), .val (.ref k), .val (.ref k)] [(.ref k), (.ref b)])) rfl rfl (hb hby dj42m66_41)
  refine OGets.step st424 ?_
  have V425_ : ORead Z h0 (((b, Sum.inr (.byte, [(.int y0), (.int y1)])) : Addr × OObj) :: ((d, Sum.inr (.byte, [(.int (46 : Int32))])) : Addr × OObj) :: ((a, Sum.inl ("java/lang/String", ns_String, [(.ref b), (.int (0 : Int32))])) : Addr × OObj) :: ((k, Sum.inl ("java/lang/String", ns_String, [(.ref d), (.int (0 : Int32))])) : Addr × OObj) :: F) := ((V0.bring 3 rfl).bring 2 rfl)
  obtain ⟨_, _, ⟨T425, L425, k425, n425⟩, -, X425, ⟨Lc425, hQ425, l425, y425, z425⟩, st425⟩ := Jvm.LawKit.callS X424 hx (y := (⟨"java/lang/StringLatin1", "equals", "([B[B)Z"⟩ : MethodName)) hown (mvT hZ (hw _ (List.mem_of_getElem? (i := 40) rfl))) (mvT hZ (hw _ (List.mem_of_getElem? (i := 41) rfl))) (mvT hZ (hw _ (List.mem_of_getElem? (i := 42) rfl))) (mvT hZ (hw _ (List.mem_of_getElem? (i := 43) rfl))) (by decide) (backOf (W := 0) (rm_le21 l Z a0 hw [] b d y0 y1 h0 n0 _ Z0  V425_) hZ (hw _ (List.mem_of_getElem? (i := 43) rfl)) (hw _ (List.mem_of_getElem? (i := 42) rfl)) (by decide) (by decide)) (g := (mkF m 44 #[.val (.ref a), .val (.ref k), .val (.ref k)] [(.ref d), (.ref b)])) rfl (by rw [hml]; rfl) (argsL := [(.ref b), (.ref d)]) (rest := []) (lenOf pd_12 rfl) rfl (by show 2 * 0 + _ ≤ _; exact Nat.le_of_eq rfl) (hb hby dj42m66_44) (fun _ _ => ⟨rfl, e424, Nat.le_of_ble_eq_true rfl, Nat.le_of_ble_eq_true rfl⟩)
  dsimp only [Pt.U, Pt.locs, Pt.cells, Pt.slots] at X425 l425 y425 z425 st425 hQ425
  rw [l425, y425, z425] at X425
  obtain ⟨rfl, rfl, e425⟩ := hQ425
  have X425 : Stand p l e _ s m #[(.ref a), (.ref k)] below meth c T425 [] 0 0 := X425
  refine OGets.step st425 ?_
  refine OGets.step (fun _ => XS.ifYes X425.here hx rfl (pc0 := 47) (pc' := 54) rfl (hb hby dj42m66_47) rfl ((if0 _ _).trans (teq (by decide : (0 : Int32) = (0 : Int32))).1) (by decide) (by decide)) ?_
  refine OGets.step (fun _ => XS.iconst X425.here hx rfl (hb hby dj42m66_54)) ?_
  refine OGets.retN X425 hx hlk (t := .boolean) Bd.returns (by simp) (hb hby dj42m66_55) (Nat.le_of_ble_eq_true rfl) (Nat.le_of_ble_eq_true rfl) ?_
  exact ⟨congrArg (fun z => some (Value.int z)) (show _ = (0 : Int32) from by decide), rfl, e425⟩
def f_le2 (y0 : Int32) (y1 : Int32) : Int32 := (if y0 = (46 : Int32) then (if y1 = (46 : Int32) then (1 : Int32) else (0 : Int32)) else (0 : Int32))
theorem ef_le22 (m : MethodId) (x0 : Addr) (x1 : Addr) : entryFrame m #[(.ref x0), (.ref x1)] 3 = mkF m 0 #[.val (.ref x0), .val (.ref x1), .unset] [] := by first | (simp [entryFrame, mkF, argsToLocals, Value.category]; done) | rfl
def Q_le22 (Z : State) (b : Addr) (d : Addr) (y0 : Int32) (y1 : Int32) (h0 : Heap) (n0 : Nat) (F : List (Addr × OObj)) (v : Option Value) (h : Heap) (L : List Loc) : Prop := v = some (.int (f_le2 y0 y1)) ∧ L = [] ∧ h = h0
set_option maxRecDepth 65536 in
set_option maxHeartbeats 40000000 in
theorem rm_le22 (l : Launch) (Z : State) (a0 : Array Value) (hw : ∀ d ∈ tables_1, d.before a0 Z = true) (ws : List Jvm.Cond) (b : Addr) (d : Addr) (y0 : Int32) (y1 : Int32) (h0 : Heap) (n0 : Nat) (F : List (Addr × OObj)) (Z0 : n0 ≤ h0.size) (V0 : ORead Z h0 (((b, Sum.inr (.byte, [(.int y0), (.int y1)])) : Addr × OObj) :: ((d, Sum.inr (.byte, [(.int (46 : Int32)), (.int (46 : Int32))])) : Addr × OObj) :: F)) :
    MetFree l (⟨"java/lang/StringLatin1", "equals", "([B[B)Z"⟩ : MethodName) (head1 (Jvm.Cond.code (⟨"java/lang/StringLatin1", "equals", "([B[B)Z"⟩ : MethodName) jdk_43_method_13_code 3 (some .boolean) :: ws) ({ frames := 0, cells := 0, slots := 0, locals := 0 } : Room)) (fun a_ U => a_ = #[(.ref b), (.ref d)] ∧ Z.Warmed39 U.vm ∧ U.heap = h0) (fun _ _ _ _ _ => True) (fun _ U o U' => ∃ v L, o = .returned v ∧ Q_le22 Z b d y0 y1 h0 n0 F v U'.heap L ∧ FrameEnd U o U' L ({ frames := 0, cells := 0, slots := 0, locals := 0 } : Room).cells ({ frames := 0, cells := 0, slots := 0, locals := 0 } : Room).slots) := by
  refine MetFree.of_bodySF (plainFor_of_name pn_11) hisR ?_
  intro p e s m args below meth c s₁ Bd hml0 hP hK
  obtain ⟨rfl, hZ, hh⟩ := hP
  have hx := Bd.exec
  have hby := Bd.bytes
  have hlk : meth.locks = false := Bd.notSynchronized
  have hml : c.maxLocals = 3 := hml0
  have hown : s.vm.findClass "java/lang/StringLatin1" = some m.cls := findClass_of_methodNamed Bd.named
  have hnm := (name_of_methodNamed Bd.named Bd.method).1
  have X0 : Stand p l e ({ frames := 0, cells := 0, slots := 0, locals := 0 } : Room) s m #[(.ref b), (.ref d)] below meth c s₁ [] 0 0 := Stand.of_body Bd
  have e0 : s₁.heap = h0 := by rw [← hh, Bd.state]; rfl
  have N0 := Fr.nil n0
  have hv0 : f_le2 y0 y1 = (if y0 = (46 : Int32) then (if y1 = (46 : Int32) then (1 : Int32) else (0 : Int32)) else (0 : Int32)) := rfl
  show OGets p e below (OLeaves s (Q_le22 Z b d y0 y1 h0 n0 F ) ({ frames := 0, cells := 0, slots := 0, locals := 0 } : Room).cells ({ frames := 0, cells := 0, slots := 0, locals := 0 } : Room).slots) _
  refine OGets.enter (ef_le22 m b d) ?_
  show OGets p e below _ (s₁.setTop (mkF m 0 #[.val (.ref b), .val (.ref d), .unset] []))
  refine OGets.step (fun _ => XS.aloadN X0.here hx rfl (hb hby dj43m13_0) rfl rfl) ?_
  obtain ⟨cl427, Ar427, S427⟩ := V0.arr 0 rfl
  have ln427 : cl427.slots.size.toInt32 = (2 : Int32) := by rw [own_len S427]; rfl
  refine OGets.step (U' := s₁.setTop (mkF m 2 #[.val (.ref b), .val (.ref d), .unset] [(.int (2 : Int32))])) (fun t kt => ?_) ?_
  · refine X0.arraylength hx (by rw [e0]; exact Ar427.1) (State.isArrayOf_alike hZ.alike Ar427.2.1) (g := (mkF m 1 #[.val (.ref b), .val (.ref d), .unset] [(.ref b)])) rfl rfl (hb hby dj43m13_1) _ ?_
    rw [ln427]; exact kt
  refine OGets.step (fun _ => XS.aloadN X0.here hx rfl (hb hby dj43m13_2) rfl rfl) ?_
  obtain ⟨cl428, Ar428, S428⟩ := V0.arr 1 rfl
  have ln428 : cl428.slots.size.toInt32 = (2 : Int32) := by rw [own_len S428]; rfl
  refine OGets.step (U' := s₁.setTop (mkF m 4 #[.val (.ref b), .val (.ref d), .unset] [(.int (2 : Int32)), (.int (2 : Int32))])) (fun t kt => ?_) ?_
  · refine X0.arraylength hx (by rw [e0]; exact Ar428.1) (State.isArrayOf_alike hZ.alike Ar428.2.1) (g := (mkF m 3 #[.val (.ref b), .val (.ref d), .unset] [(.ref d), (.int (2 : Int32))])) rfl rfl (hb hby dj43m13_3) _ ?_
    rw [ln428]; exact kt
  refine OGets.step (fun _ => XS.icmpNo X0.here hx rfl (hb hby dj43m13_4) rfl (teq (by decide : (2 : Int32) = (2 : Int32))).2) ?_
  refine OGets.step (fun _ => XS.iconst X0.here hx rfl (hb hby dj43m13_7)) ?_
  show OGets p e below _ (s₁.setTop (mkF m 8 #[.val (.ref b), .val (.ref d), .unset] [(.int (0 : Int32))]))
  refine OGets.step (fun _ => XS.istoreN X0.here hx rfl (hb hby dj43m13_8) rfl (l' := #[.val (.ref b), .val (.ref d), .val (.int (0 : Int32))]) rfl) ?_
  refine OGets.step (fun _ => XS.iloadN X0.here hx rfl (hb hby dj43m13_9) rfl) ?_
  refine OGets.step (fun _ => XS.aloadN X0.here hx rfl (hb hby dj43m13_10) rfl rfl) ?_
  obtain ⟨cl430, Ar430, S430⟩ := V0.arr 0 rfl
  have ln430 : cl430.slots.size.toInt32 = (2 : Int32) := by rw [own_len S430]; rfl
  refine OGets.step (U' := s₁.setTop (mkF m 12 #[.val (.ref b), .val (.ref d), .val (.int (0 : Int32))] [(.int (2 : Int32)), (.int (0 : Int32))])) (fun t kt => ?_) ?_
  · refine X0.arraylength hx (by rw [e0]; exact Ar430.1) (State.isArrayOf_alike hZ.alike Ar430.2.1) (g := (mkF m 11 #[.val (.ref b), .val (.ref d), .val (.int (0 : Int32))] [(.ref b), (.int (0 : Int32))])) rfl rfl (hb hby dj43m13_11) _ ?_
    rw [ln430]; exact kt
  refine OGets.step (fun _ => XS.icmpNo X0.here hx rfl (hb hby dj43m13_12) rfl (tlt (by decide : (0 : Int32) < (2 : Int32))).2.1) ?_
  refine OGets.step (fun _ => XS.aloadN X0.here hx rfl (hb hby dj43m13_15) rfl rfl) ?_
  show OGets p e below _ (s₁.setTop (mkF m 16 #[.val (.ref b), .val (.ref d), .val (.int (0 : Int32))] [(.ref b)]))
  refine OGets.step (fun _ => XS.iloadN X0.here hx rfl (hb hby dj43m13_16) rfl) ?_
  obtain ⟨cl432, Ar432, S432⟩ := V0.arr 0 rfl
  refine OGets.step (fun _ => X0.baloadBytes hx (j := (0 : Int32)) (v := (.int y0)) (by rw [e0]; exact Ar432.1) (State.isArrayOf_alike hZ.alike Ar432.2.1) Ar432.2.2 (own_inb S432 0 (by decide) (Nat.le_of_ble_eq_true rfl)) (own_get S432 0 (by decide) rfl) (g := (mkF m 17 #[.val (.ref b), .val (.ref d), .val (.int (0 : Int32))] [(.int (0 : Int32)), (.ref b)])) rfl rfl (hb hby dj43m13_17) _) ?_
  refine OGets.step (fun _ => XS.aloadN X0.here hx rfl (hb hby dj43m13_18) rfl rfl) ?_
  refine OGets.step (fun _ => XS.iloadN X0.here hx rfl (hb hby dj43m13_19) rfl) ?_
  obtain ⟨cl433, Ar433, S433⟩ := V0.arr 1 rfl
  refine OGets.step (fun _ => X0.baloadBytes hx (j := (0 : Int32)) (v := (.int (46 : Int32))) (by rw [e0]; exact Ar433.1) (State.isArrayOf_alike hZ.alike Ar433.2.1) Ar433.2.2 (own_inb S433 0 (by decide) (Nat.le_of_ble_eq_true rfl)) (own_get S433 0 (by decide) rfl) (g := (mkF m 20 #[.val (.ref b), .val (.ref d), .val (.int (0 : Int32))] [(.int (0 : Int32)), (.ref d), (.int y0)])) rfl rfl (hb hby dj43m13_20) _) ?_
  by_cases hc21_434 : y0 = (46 : Int32)
  · refine OGets.step (fun _ => XS.icmpYes X0.here hx rfl (pc0 := 21) (pc' := 26) rfl (hb hby dj43m13_21) rfl (teq hc21_434).1 (by decide) (by decide)) ?_
    have hv435 := hv0.trans (if_pos hc21_434)
    show OGets p e below _ (s₁.setTop (mkF m 26 #[.val (.ref b), .val (.ref d), .val (.int (0 : Int32))] []))
    refine OGets.step (fun _ => XS.iinc X0.here hx rfl (hb hby dj43m13_26) rfl (l' := #[.val (.ref b), .val (.ref d), .val (.int (1 : Int32))]) rfl) ?_
    refine OGets.step (fun _ => XS.goto X0.here hx rfl (pc0 := 29) (pc' := 9) rfl (hb hby dj43m13_29) (by decide) (by decide)) ?_
    refine OGets.step (fun _ => XS.iloadN X0.here hx rfl (hb hby dj43m13_9) rfl) ?_
    refine OGets.step (fun _ => XS.aloadN X0.here hx rfl (hb hby dj43m13_10) rfl rfl) ?_
    obtain ⟨cl436, Ar436, S436⟩ := V0.arr 0 rfl
    have ln436 : cl436.slots.size.toInt32 = (2 : Int32) := by rw [own_len S436]; rfl
    refine OGets.step (U' := s₁.setTop (mkF m 12 #[.val (.ref b), .val (.ref d), .val (.int (1 : Int32))] [(.int (2 : Int32)), (.int (1 : Int32))])) (fun t kt => ?_) ?_
    · refine X0.arraylength hx (by rw [e0]; exact Ar436.1) (State.isArrayOf_alike hZ.alike Ar436.2.1) (g := (mkF m 11 #[.val (.ref b), .val (.ref d), .val (.int (1 : Int32))] [(.ref b), (.int (1 : Int32))])) rfl rfl (hb hby dj43m13_11) _ ?_
      rw [ln436]; exact kt
    refine OGets.step (fun _ => XS.icmpNo X0.here hx rfl (hb hby dj43m13_12) rfl (tlt (by decide : (1 : Int32) < (2 : Int32))).2.1) ?_
    show OGets p e below _ (s₁.setTop (mkF m 15 #[.val (.ref b), .val (.ref d), .val (.int (1 : Int32))] []))
    refine OGets.step (fun _ => XS.aloadN X0.here hx rfl (hb hby dj43m13_15) rfl rfl) ?_
    refine OGets.step (fun _ => XS.iloadN X0.here hx rfl (hb hby dj43m13_16) rfl) ?_
    obtain ⟨cl438, Ar438, S438⟩ := V0.arr 0 rfl
    refine OGets.step (fun _ => X0.baloadBytes hx (j := (1 : Int32)) (v := (.int y1)) (by rw [e0]; exact Ar438.1) (State.isArrayOf_alike hZ.alike Ar438.2.1) Ar438.2.2 (own_inb S438 1 (by decide) (Nat.le_of_ble_eq_true rfl)) (own_get S438 1 (by decide) rfl) (g := (mkF m 17 #[.val (.ref b), .val (.ref d), .val (.int (1 : Int32))] [(.int (1 : Int32)), (.ref b)])) rfl rfl (hb hby dj43m13_17) _) ?_
    refine OGets.step (fun _ => XS.aloadN X0.here hx rfl (hb hby dj43m13_18) rfl rfl) ?_
    refine OGets.step (fun _ => XS.iloadN X0.here hx rfl (hb hby dj43m13_19) rfl) ?_
    obtain ⟨cl439, Ar439, S439⟩ := V0.arr 1 rfl
    refine OGets.step (fun _ => X0.baloadBytes hx (j := (1 : Int32)) (v := (.int (46 : Int32))) (by rw [e0]; exact Ar439.1) (State.isArrayOf_alike hZ.alike Ar439.2.1) Ar439.2.2 (own_inb S439 1 (by decide) (Nat.le_of_ble_eq_true rfl)) (own_get S439 1 (by decide) rfl) (g := (mkF m 20 #[.val (.ref b), .val (.ref d), .val (.int (1 : Int32))] [(.int (1 : Int32)), (.ref d), (.int y1)])) rfl rfl (hb hby dj43m13_20) _) ?_
    show OGets p e below _ (s₁.setTop (mkF m 21 #[.val (.ref b), .val (.ref d), .val (.int (1 : Int32))] [(.int (46 : Int32)), (.int y1)]))
    by_cases hc21_440 : y1 = (46 : Int32)
    · refine OGets.step (fun _ => XS.icmpYes X0.here hx rfl (pc0 := 21) (pc' := 26) rfl (hb hby dj43m13_21) rfl (teq hc21_440).1 (by decide) (by decide)) ?_
      have hv441 := hv435.trans (if_pos hc21_440)
      show OGets p e below _ (s₁.setTop (mkF m 26 #[.val (.ref b), .val (.ref d), .val (.int (1 : Int32))] []))
      refine OGets.step (fun _ => XS.iinc X0.here hx rfl (hb hby dj43m13_26) rfl (l' := #[.val (.ref b), .val (.ref d), .val (.int (2 : Int32))]) rfl) ?_
      refine OGets.step (fun _ => XS.goto X0.here hx rfl (pc0 := 29) (pc' := 9) rfl (hb hby dj43m13_29) (by decide) (by decide)) ?_
      refine OGets.step (fun _ => XS.iloadN X0.here hx rfl (hb hby dj43m13_9) rfl) ?_
      refine OGets.step (fun _ => XS.aloadN X0.here hx rfl (hb hby dj43m13_10) rfl rfl) ?_
      obtain ⟨cl442, Ar442, S442⟩ := V0.arr 0 rfl
      have ln442 : cl442.slots.size.toInt32 = (2 : Int32) := by rw [own_len S442]; rfl
      refine OGets.step (U' := s₁.setTop (mkF m 12 #[.val (.ref b), .val (.ref d), .val (.int (2 : Int32))] [(.int (2 : Int32)), (.int (2 : Int32))])) (fun t kt => ?_) ?_
      · refine X0.arraylength hx (by rw [e0]; exact Ar442.1) (State.isArrayOf_alike hZ.alike Ar442.2.1) (g := (mkF m 11 #[.val (.ref b), .val (.ref d), .val (.int (2 : Int32))] [(.ref b), (.int (2 : Int32))])) rfl rfl (hb hby dj43m13_11) _ ?_
        rw [ln442]; exact kt
      refine OGets.step (fun _ => XS.icmpYes X0.here hx rfl (pc0 := 12) (pc' := 32) rfl (hb hby dj43m13_12) rfl (flt (by decide : ¬ ((2 : Int32) < (2 : Int32)))).2.1 (by decide) (by decide)) ?_
      show OGets p e below _ (s₁.setTop (mkF m 32 #[.val (.ref b), .val (.ref d), .val (.int (2 : Int32))] []))
      refine OGets.step (fun _ => XS.iconst X0.here hx rfl (hb hby dj43m13_32)) ?_
      refine OGets.retN X0 hx hlk (t := .boolean) Bd.returns (by simp) (hb hby dj43m13_33) (Nat.le_of_ble_eq_true rfl) (Nat.le_of_ble_eq_true rfl) ?_
      exact ⟨congrArg (fun z => some (Value.int z)) hv441.symm, rfl, e0⟩
    · refine OGets.step (fun _ => XS.icmpNo X0.here hx rfl (hb hby dj43m13_21) rfl (feq hc21_440).1) ?_
      have hv444 := hv435.trans (if_neg hc21_440)
      show OGets p e below _ (s₁.setTop (mkF m 24 #[.val (.ref b), .val (.ref d), .val (.int (1 : Int32))] []))
      refine OGets.step (fun _ => XS.iconst X0.here hx rfl (hb hby dj43m13_24)) ?_
      refine OGets.retN X0 hx hlk (t := .boolean) Bd.returns (by simp) (hb hby dj43m13_25) (Nat.le_of_ble_eq_true rfl) (Nat.le_of_ble_eq_true rfl) ?_
      exact ⟨congrArg (fun z => some (Value.int z)) hv444.symm, rfl, e0⟩
  · refine OGets.step (fun _ => XS.icmpNo X0.here hx rfl (hb hby dj43m13_21) rfl (feq hc21_434).1) ?_
    have hv445 := hv0.trans (if_neg hc21_434)
    show OGets p e below _ (s₁.setTop (mkF m 24 #[.val (.ref b), .val (.ref d), .val (.int (0 : Int32))] []))
    refine OGets.step (fun _ => XS.iconst X0.here hx rfl (hb hby dj43m13_24)) ?_
    refine OGets.retN X0 hx hlk (t := .boolean) Bd.returns (by simp) (hb hby dj43m13_25) (Nat.le_of_ble_eq_true rfl) (Nat.le_of_ble_eq_true rfl) ?_
    exact ⟨congrArg (fun z => some (Value.int z)) hv445.symm, rfl, e0⟩
def f_eq2 (y0 : Int32) (y1 : Int32) : Int32 := (if (f_le2 y0 y1) = (0 : Int32) then (0 : Int32) else (1 : Int32))
theorem ef_eq22 (m : MethodId) (x0 : Addr) (x1 : Addr) : entryFrame m #[(.ref x0), (.ref x1)] 3 = mkF m 0 #[.val (.ref x0), .val (.ref x1), .unset] [] := by first | (simp [entryFrame, mkF, argsToLocals, Value.category]; done) | rfl
def Q_eq22 (Z : State) (a : Addr) (b : Addr) (k : Addr) (d : Addr) (G : Int32) (y0 : Int32) (y1 : Int32) (h0 : Heap) (n0 : Nat) (F : List (Addr × OObj)) (v : Option Value) (h : Heap) (L : List Loc) : Prop := v = some (.int (f_eq2 y0 y1)) ∧ L = [] ∧ h = h0
set_option maxRecDepth 65536 in
set_option maxHeartbeats 40000000 in
theorem rm_eq22 (l : Launch) (Z : State) (a0 : Array Value) (hw : ∀ d ∈ tables_1, d.before a0 Z = true) (ws : List Jvm.Cond) (a : Addr) (b : Addr) (k : Addr) (d : Addr) (G : Int32) (y0 : Int32) (y1 : Int32) (h0 : Heap) (n0 : Nat) (F : List (Addr × OObj)) (Z0 : n0 ≤ h0.size) (S0 : Sta Z h0 "java/lang/String" "COMPACT_STRINGS" "Z" (.int G)) (hG : ¬ G = (0 : Int32)) (V0 : ORead Z h0 (((a, Sum.inl ("java/lang/String", ns_String, [(.ref b), (.int (0 : Int32))])) : Addr × OObj) :: ((b, Sum.inr (.byte, [(.int y0), (.int y1)])) : Addr × OObj) :: ((k, Sum.inl ("java/lang/String", ns_String, [(.ref d), (.int (0 : Int32))])) : Addr × OObj) :: ((d, Sum.inr (.byte, [(.int (46 : Int32)), (.int (46 : Int32))])) : Addr × OObj) :: F)) :
    MetFree l (⟨"java/lang/String", "equals", "(Ljava/lang/Object;)Z"⟩ : MethodName) (head1 (Jvm.Cond.code (⟨"java/lang/String", "equals", "(Ljava/lang/Object;)Z"⟩ : MethodName) jdk_42_method_66_code 3 (some .boolean) :: ws) ({ frames := 1, cells := 0, slots := 0, locals := 14 } : Room)) (fun a_ U => a_ = #[(.ref a), (.ref k)] ∧ Z.Warmed39 U.vm ∧ U.heap = h0) (fun _ _ _ _ _ => True) (fun _ U o U' => ∃ v L, o = .returned v ∧ Q_eq22 Z a b k d G y0 y1 h0 n0 F v U'.heap L ∧ FrameEnd U o U' L ({ frames := 1, cells := 0, slots := 0, locals := 14 } : Room).cells ({ frames := 1, cells := 0, slots := 0, locals := 14 } : Room).slots) := by
  refine MetFree.of_bodySF (plainFor_of_name pn_8) hisR ?_
  intro p e s m args below meth c s₁ Bd hml0 hP hK
  obtain ⟨rfl, hZ, hh⟩ := hP
  have hx := Bd.exec
  have hby := Bd.bytes
  have hlk : meth.locks = false := Bd.notSynchronized
  have hml : c.maxLocals = 3 := hml0
  have hown : s.vm.findClass "java/lang/String" = some m.cls := findClass_of_methodNamed Bd.named
  have hnm := (name_of_methodNamed Bd.named Bd.method).1
  have X0 : Stand p l e ({ frames := 1, cells := 0, slots := 0, locals := 14 } : Room) s m #[(.ref a), (.ref k)] below meth c s₁ [] 0 0 := Stand.of_body Bd
  have e0 : s₁.heap = h0 := by rw [← hh, Bd.state]; rfl
  have N0 := Fr.nil n0
  have hv0 : f_eq2 y0 y1 = (if (f_le2 y0 y1) = (0 : Int32) then (0 : Int32) else (1 : Int32)) := rfl
  show OGets p e below (OLeaves s (Q_eq22 Z a b k d G y0 y1 h0 n0 F ) ({ frames := 1, cells := 0, slots := 0, locals := 14 } : Room).cells ({ frames := 1, cells := 0, slots := 0, locals := 14 } : Room).slots) _
  refine OGets.enter (ef_eq22 m a k) ?_
  show OGets p e below _ (s₁.setTop (mkF m 0 #[.val (.ref a), .val (.ref k), .unset] []))
  refine OGets.step (fun _ => XS.aloadN X0.here hx rfl (hb hby dj42m66_0) rfl rfl) ?_
  refine OGets.step (fun _ => XS.aloadN X0.here hx rfl (hb hby dj42m66_1) rfl rfl) ?_
  by_cases hq446 : a = k
  · refine OGets.step (fun _ => Jvm.RoadKit.acmp (g := (mkF m 2 #[.val (.ref a), .val (.ref k), .unset] [(.ref k), (.ref a)])) X0 hx rfl rfl rfl (pc0 := 2) (pc' := 5) (same := true) rfl (hb hby dj42m66_2) rfl (decide_eq_true (congrArg Value.ref hq446)) (by decide) (by decide)) ?_
    show OGets p e below _ (s₁.setTop (mkF m 5 #[.val (.ref a), .val (.ref k), .unset] []))
    refine OGets.step (fun _ => XS.iconst X0.here hx rfl (hb hby dj42m66_5)) ?_
    refine OGets.retN X0 hx hlk (t := .boolean) Bd.returns (by simp) (hb hby dj42m66_6) (Nat.le_of_ble_eq_true rfl) (Nat.le_of_ble_eq_true rfl) ?_
    have q := own_same (V0.fld 0 rfl 0 rfl rfl) (V0.fld 2 rfl 0 rfl rfl) hq446 (V0.arr 1 rfl) (V0.arr 3 rfl)
    simp only [List.cons.injEq, Value.int.injEq, and_true] at q
    have q' : f_eq2 y0 y1 = (1 : Int32) := by rw [q.1, q.2]; decide
    exact ⟨congrArg (fun z => some (Value.int z)) q'.symm, rfl, e0⟩
  · refine OGets.step (fun _ => Jvm.RoadKit.acmp (g := (mkF m 2 #[.val (.ref a), .val (.ref k), .unset] [(.ref k), (.ref a)])) X0 hx rfl rfl rfl (pc0 := 2) (pc' := 7) (same := false) rfl (hb hby dj42m66_2) rfl (decide_eq_false (fun q => hq446 (Value.ref.inj q))) (by decide) (by decide)) ?_
    show OGets p e below _ (s₁.setTop (mkF m 7 #[.val (.ref a), .val (.ref k), .unset] []))
    refine OGets.step (fun _ => XS.aloadN X0.here hx rfl (hb hby dj42m66_7) rfl rfl) ?_
    obtain ⟨T447, X447, e447, st447⟩ := instY X0 hx hZ hown (hw _ (List.mem_of_getElem? (i := 38) rfl)) e0 (Ins.self (V0.exa 2 rfl)) (g := (mkF m 8 #[.val (.ref a), .val (.ref k), .unset] [(.ref k)])) rfl rfl (hb hby dj42m66_8)
    refine OGets.step st447 ?_
    refine OGets.step (fun _ => XS.ifNo X447.here hx rfl (hb hby dj42m66_11) rfl ((if0 _ _).trans (feq (by decide : ¬ ((1 : Int32) = (0 : Int32)))).1)) ?_
    refine OGets.step (fun _ => XS.aloadN X447.here hx rfl (hb hby dj42m66_14) rfl rfl) ?_
    obtain ⟨T449, X449, e449, st449⟩ := castY X447 hx hZ hown (hw _ (List.mem_of_getElem? (i := 38) rfl)) e447 (Ins.self (V0.exa 2 rfl)) (g := (mkF m 15 #[.val (.ref a), .val (.ref k), .unset] [(.ref k)])) rfl rfl (hb hby dj42m66_15)
    refine OGets.step st449 ?_
    refine OGets.step (fun _ => XS.astoreN X449.here hx rfl (hb hby dj42m66_18) rfl rfl (l' := #[.val (.ref a), .val (.ref k), .val (.ref k)]) rfl) ?_
    obtain ⟨T450, X450, e450, st450⟩ := getS2 X449 hx hZ hown (host := "") (Or.inl (hw _ (List.mem_of_getElem? (i := 39) rfl))) Via.refl e449 S0 (g := (mkF m 19 #[.val (.ref a), .val (.ref k), .val (.ref k)] [])) rfl (hb hby dj42m66_19)
    refine OGets.step st450 ?_
    refine OGets.step (fun _ => XS.ifNo X450.here hx rfl (hb hby dj42m66_22) rfl ((if0 _ _).trans (feq (hG : ¬ (G = (0 : Int32)))).1)) ?_
    refine OGets.step (fun _ => XS.aloadN X450.here hx rfl (hb hby dj42m66_25) rfl rfl) ?_
    obtain ⟨T452, X452, e452, st452⟩ := getF X450 hx hZ hown (host := "") (Or.inl (hw _ (List.mem_of_getElem? (i := 27) rfl))) Via.refl e450 (V0.fld 0 rfl 1 rfl rfl) (g := (mkF m 26 #[.val (.ref a), .val (.ref k), .val (.ref k)] [(.ref a)])) rfl rfl (hb hby dj42m66_26)
    refine OGets.step st452 ?_
    refine OGets.step (fun _ => XS.aloadN X452.here hx rfl (hb hby dj42m66_29) rfl rfl) ?_
    obtain ⟨T453, X453, e453, st453⟩ := getF X452 hx hZ hown (host := "") (Or.inl (hw _ (List.mem_of_getElem? (i := 27) rfl))) Via.refl e452 (V0.fld 2 rfl 1 rfl rfl) (g := (mkF m 30 #[.val (.ref a), .val (.ref k), .val (.ref k)] [(.ref k), (.int (0 : Int32))])) rfl rfl (hb hby dj42m66_30)
    refine OGets.step st453 ?_
    refine OGets.step (fun _ => XS.icmpNo X453.here hx rfl (hb hby dj42m66_33) rfl (teq (by decide : (0 : Int32) = (0 : Int32))).2) ?_
    refine OGets.step (fun _ => XS.aloadN X453.here hx rfl (hb hby dj42m66_36) rfl rfl) ?_
    obtain ⟨T455, X455, e455, st455⟩ := getF X453 hx hZ hown (host := "") (Or.inl (hw _ (List.mem_of_getElem? (i := 26) rfl))) Via.refl e453 (V0.fld 0 rfl 0 rfl rfl) (g := (mkF m 37 #[.val (.ref a), .val (.ref k), .val (.ref k)] [(.ref a)])) rfl rfl (hb hby dj42m66_37)
    refine OGets.step st455 ?_
    refine OGets.step (fun _ => XS.aloadN X455.here hx rfl (hb hby dj42m66_40) rfl rfl) ?_
    obtain ⟨T456, X456, e456, st456⟩ := getF X455 hx hZ hown (host := "") (Or.inl (hw _ (List.mem_of_getElem? (i := 26) rfl))) Via.refl e455 (V0.fld 2 rfl 0 rfl rfl) (g := (mkF m 41 #[.val (.ref a), .val (.ref k), .val (.ref k)] [(.ref k), (.ref b)])) rfl rfl (hb hby dj42m66_41)
    refine OGets.step st456 ?_
    have V457_ : ORead Z h0 (((b, Sum.inr (.byte, [(.int y0), (.int y1)])) : Addr × OObj) :: ((d, Sum.inr (.byte, [(.int (46 : Int32)), (.int (46 : Int32))])) : Addr × OObj) :: ((a, Sum.inl ("java/lang/String", ns_String, [(.ref b), (.int (0 : Int32))])) : Addr × OObj) :: ((k, Sum.inl ("java/lang/String", ns_String, [(.ref d), (.int (0 : Int32))])) : Addr × OObj) :: F) := ((V0.bring 3 rfl).bring 2 rfl)
    obtain ⟨_, _, ⟨T457, L457, k457, n457⟩, -, X457, ⟨Lc457, hQ457, l457, y457, z457⟩, st457⟩ := Jvm.LawKit.callS X456 hx (y := (⟨"java/lang/StringLatin1", "equals", "([B[B)Z"⟩ : MethodName)) hown (mvT hZ (hw _ (List.mem_of_getElem? (i := 40) rfl))) (mvT hZ (hw _ (List.mem_of_getElem? (i := 41) rfl))) (mvT hZ (hw _ (List.mem_of_getElem? (i := 42) rfl))) (mvT hZ (hw _ (List.mem_of_getElem? (i := 43) rfl))) (by decide) (backOf (W := 0) (rm_le22 l Z a0 hw [] b d y0 y1 h0 n0 _ Z0  V457_) hZ (hw _ (List.mem_of_getElem? (i := 43) rfl)) (hw _ (List.mem_of_getElem? (i := 42) rfl)) (by decide) (by decide)) (g := (mkF m 44 #[.val (.ref a), .val (.ref k), .val (.ref k)] [(.ref d), (.ref b)])) rfl (by rw [hml]; rfl) (argsL := [(.ref b), (.ref d)]) (rest := []) (lenOf pd_12 rfl) rfl (by show 2 * 0 + _ ≤ _; exact Nat.le_of_eq rfl) (hb hby dj42m66_44) (fun _ _ => ⟨rfl, e456, Nat.le_of_ble_eq_true rfl, Nat.le_of_ble_eq_true rfl⟩)
    dsimp only [Pt.U, Pt.locs, Pt.cells, Pt.slots] at X457 l457 y457 z457 st457 hQ457
    rw [l457, y457, z457] at X457
    obtain ⟨rfl, rfl, e457⟩ := hQ457
    have X457 : Stand p l e _ s m #[(.ref a), (.ref k)] below meth c T457 [] 0 0 := X457
    refine OGets.step st457 ?_
    by_cases hc47_458 : (f_le2 y0 y1) = (0 : Int32)
    · refine OGets.step (fun _ => XS.ifYes X457.here hx rfl (pc0 := 47) (pc' := 54) rfl (hb hby dj42m66_47) rfl ((if0 _ _).trans (teq hc47_458).1) (by decide) (by decide)) ?_
      have hv459 := hv0.trans (if_pos hc47_458)
      show OGets p e below _ (T457.setTop (mkF m 54 #[.val (.ref a), .val (.ref k), .val (.ref k)] []))
      refine OGets.step (fun _ => XS.iconst X457.here hx rfl (hb hby dj42m66_54)) ?_
      refine OGets.retN X457 hx hlk (t := .boolean) Bd.returns (by simp) (hb hby dj42m66_55) (Nat.le_of_ble_eq_true rfl) (Nat.le_of_ble_eq_true rfl) ?_
      exact ⟨congrArg (fun z => some (Value.int z)) hv459.symm, rfl, e457⟩
    · refine OGets.step (fun _ => XS.ifNo X457.here hx rfl (hb hby dj42m66_47) rfl ((if0 _ _).trans (feq hc47_458).1)) ?_
      have hv460 := hv0.trans (if_neg hc47_458)
      show OGets p e below _ (T457.setTop (mkF m 50 #[.val (.ref a), .val (.ref k), .val (.ref k)] []))
      refine OGets.step (fun _ => XS.iconst X457.here hx rfl (hb hby dj42m66_50)) ?_
      refine OGets.step (fun _ => XS.goto X457.here hx rfl (pc0 := 51) (pc' := 55) rfl (hb hby dj42m66_51) (by decide) (by decide)) ?_
      refine OGets.retN X457 hx hlk (t := .boolean) Bd.returns (by simp) (hb hby dj42m66_55) (Nat.le_of_ble_eq_true rfl) (Nat.le_of_ble_eq_true rfl) ?_
      exact ⟨congrArg (fun z => some (Value.int z)) hv460.symm, rfl, e457⟩
theorem ef_le31 (m : MethodId) (x0 : Addr) (x1 : Addr) : entryFrame m #[(.ref x0), (.ref x1)] 3 = mkF m 0 #[.val (.ref x0), .val (.ref x1), .unset] [] := by first | (simp [entryFrame, mkF, argsToLocals, Value.category]; done) | rfl
def Q_le31 (Z : State) (b : Addr) (d : Addr) (y0 : Int32) (y1 : Int32) (y2 : Int32) (h0 : Heap) (n0 : Nat) (F : List (Addr × OObj)) (v : Option Value) (h : Heap) (L : List Loc) : Prop := v = some (.int (0 : Int32)) ∧ L = [] ∧ h = h0
set_option maxRecDepth 65536 in
set_option maxHeartbeats 40000000 in
theorem rm_le31 (l : Launch) (Z : State) (a0 : Array Value) (hw : ∀ d ∈ tables_1, d.before a0 Z = true) (ws : List Jvm.Cond) (b : Addr) (d : Addr) (y0 : Int32) (y1 : Int32) (y2 : Int32) (h0 : Heap) (n0 : Nat) (F : List (Addr × OObj)) (Z0 : n0 ≤ h0.size) (V0 : ORead Z h0 (((b, Sum.inr (.byte, [(.int y0), (.int y1), (.int y2)])) : Addr × OObj) :: ((d, Sum.inr (.byte, [(.int (46 : Int32))])) : Addr × OObj) :: F)) :
    MetFree l (⟨"java/lang/StringLatin1", "equals", "([B[B)Z"⟩ : MethodName) (head1 (Jvm.Cond.code (⟨"java/lang/StringLatin1", "equals", "([B[B)Z"⟩ : MethodName) jdk_43_method_13_code 3 (some .boolean) :: ws) ({ frames := 0, cells := 0, slots := 0, locals := 0 } : Room)) (fun a_ U => a_ = #[(.ref b), (.ref d)] ∧ Z.Warmed39 U.vm ∧ U.heap = h0) (fun _ _ _ _ _ => True) (fun _ U o U' => ∃ v L, o = .returned v ∧ Q_le31 Z b d y0 y1 y2 h0 n0 F v U'.heap L ∧ FrameEnd U o U' L ({ frames := 0, cells := 0, slots := 0, locals := 0 } : Room).cells ({ frames := 0, cells := 0, slots := 0, locals := 0 } : Room).slots) := by
  refine MetFree.of_bodySF (plainFor_of_name pn_11) hisR ?_
  intro p e s m args below meth c s₁ Bd hml0 hP hK
  obtain ⟨rfl, hZ, hh⟩ := hP
  have hx := Bd.exec
  have hby := Bd.bytes
  have hlk : meth.locks = false := Bd.notSynchronized
  have hml : c.maxLocals = 3 := hml0
  have hown : s.vm.findClass "java/lang/StringLatin1" = some m.cls := findClass_of_methodNamed Bd.named
  have hnm := (name_of_methodNamed Bd.named Bd.method).1
  have X0 : Stand p l e ({ frames := 0, cells := 0, slots := 0, locals := 0 } : Room) s m #[(.ref b), (.ref d)] below meth c s₁ [] 0 0 := Stand.of_body Bd
  have e0 : s₁.heap = h0 := by rw [← hh, Bd.state]; rfl
  have N0 := Fr.nil n0
  show OGets p e below (OLeaves s (Q_le31 Z b d y0 y1 y2 h0 n0 F ) ({ frames := 0, cells := 0, slots := 0, locals := 0 } : Room).cells ({ frames := 0, cells := 0, slots := 0, locals := 0 } : Room).slots) _
  refine OGets.enter (ef_le31 m b d) ?_
  show OGets p e below _ (s₁.setTop (mkF m 0 #[.val (.ref b), .val (.ref d), .unset] []))
  refine OGets.step (fun _ => XS.aloadN X0.here hx rfl (hb hby dj43m13_0) rfl rfl) ?_
  obtain ⟨cl461, Ar461, S461⟩ := V0.arr 0 rfl
  have ln461 : cl461.slots.size.toInt32 = (3 : Int32) := by rw [own_len S461]; rfl
  refine OGets.step (U' := s₁.setTop (mkF m 2 #[.val (.ref b), .val (.ref d), .unset] [(.int (3 : Int32))])) (fun t kt => ?_) ?_
  · refine X0.arraylength hx (by rw [e0]; exact Ar461.1) (State.isArrayOf_alike hZ.alike Ar461.2.1) (g := (mkF m 1 #[.val (.ref b), .val (.ref d), .unset] [(.ref b)])) rfl rfl (hb hby dj43m13_1) _ ?_
    rw [ln461]; exact kt
  refine OGets.step (fun _ => XS.aloadN X0.here hx rfl (hb hby dj43m13_2) rfl rfl) ?_
  obtain ⟨cl462, Ar462, S462⟩ := V0.arr 1 rfl
  have ln462 : cl462.slots.size.toInt32 = (1 : Int32) := by rw [own_len S462]; rfl
  refine OGets.step (U' := s₁.setTop (mkF m 4 #[.val (.ref b), .val (.ref d), .unset] [(.int (1 : Int32)), (.int (3 : Int32))])) (fun t kt => ?_) ?_
  · refine X0.arraylength hx (by rw [e0]; exact Ar462.1) (State.isArrayOf_alike hZ.alike Ar462.2.1) (g := (mkF m 3 #[.val (.ref b), .val (.ref d), .unset] [(.ref d), (.int (3 : Int32))])) rfl rfl (hb hby dj43m13_3) _ ?_
    rw [ln462]; exact kt
  refine OGets.step (fun _ => XS.icmpYes X0.here hx rfl (pc0 := 4) (pc' := 34) rfl (hb hby dj43m13_4) rfl (feq (by decide : ¬ ((3 : Int32) = (1 : Int32)))).2 (by decide) (by decide)) ?_
  refine OGets.step (fun _ => XS.iconst X0.here hx rfl (hb hby dj43m13_34)) ?_
  show OGets p e below _ (s₁.setTop (mkF m 35 #[.val (.ref b), .val (.ref d), .unset] [(.int (0 : Int32))]))
  refine OGets.retN X0 hx hlk (t := .boolean) Bd.returns (by simp) (hb hby dj43m13_35) (Nat.le_of_ble_eq_true rfl) (Nat.le_of_ble_eq_true rfl) ?_
  exact ⟨congrArg (fun z => some (Value.int z)) (show _ = (0 : Int32) from by decide), rfl, e0⟩
theorem ef_eq31 (m : MethodId) (x0 : Addr) (x1 : Addr) : entryFrame m #[(.ref x0), (.ref x1)] 3 = mkF m 0 #[.val (.ref x0), .val (.ref x1), .unset] [] := by first | (simp [entryFrame, mkF, argsToLocals, Value.category]; done) | rfl
def Q_eq31 (Z : State) (a : Addr) (b : Addr) (k : Addr) (d : Addr) (G : Int32) (y0 : Int32) (y1 : Int32) (y2 : Int32) (h0 : Heap) (n0 : Nat) (F : List (Addr × OObj)) (v : Option Value) (h : Heap) (L : List Loc) : Prop := v = some (.int (0 : Int32)) ∧ L = [] ∧ h = h0
set_option maxRecDepth 65536 in
set_option maxHeartbeats 40000000 in
theorem rm_eq31 (l : Launch) (Z : State) (a0 : Array Value) (hw : ∀ d ∈ tables_1, d.before a0 Z = true) (ws : List Jvm.Cond) (a : Addr) (b : Addr) (k : Addr) (d : Addr) (G : Int32) (y0 : Int32) (y1 : Int32) (y2 : Int32) (h0 : Heap) (n0 : Nat) (F : List (Addr × OObj)) (Z0 : n0 ≤ h0.size) (S0 : Sta Z h0 "java/lang/String" "COMPACT_STRINGS" "Z" (.int G)) (hG : ¬ G = (0 : Int32)) (V0 : ORead Z h0 (((a, Sum.inl ("java/lang/String", ns_String, [(.ref b), (.int (0 : Int32))])) : Addr × OObj) :: ((b, Sum.inr (.byte, [(.int y0), (.int y1), (.int y2)])) : Addr × OObj) :: ((k, Sum.inl ("java/lang/String", ns_String, [(.ref d), (.int (0 : Int32))])) : Addr × OObj) :: ((d, Sum.inr (.byte, [(.int (46 : Int32))])) : Addr × OObj) :: F)) :
    MetFree l (⟨"java/lang/String", "equals", "(Ljava/lang/Object;)Z"⟩ : MethodName) (head1 (Jvm.Cond.code (⟨"java/lang/String", "equals", "(Ljava/lang/Object;)Z"⟩ : MethodName) jdk_42_method_66_code 3 (some .boolean) :: ws) ({ frames := 1, cells := 0, slots := 0, locals := 14 } : Room)) (fun a_ U => a_ = #[(.ref a), (.ref k)] ∧ Z.Warmed39 U.vm ∧ U.heap = h0) (fun _ _ _ _ _ => True) (fun _ U o U' => ∃ v L, o = .returned v ∧ Q_eq31 Z a b k d G y0 y1 y2 h0 n0 F v U'.heap L ∧ FrameEnd U o U' L ({ frames := 1, cells := 0, slots := 0, locals := 14 } : Room).cells ({ frames := 1, cells := 0, slots := 0, locals := 14 } : Room).slots) := by
  refine MetFree.of_bodySF (plainFor_of_name pn_8) hisR ?_
  intro p e s m args below meth c s₁ Bd hml0 hP hK
  obtain ⟨rfl, hZ, hh⟩ := hP
  have hx := Bd.exec
  have hby := Bd.bytes
  have hlk : meth.locks = false := Bd.notSynchronized
  have hml : c.maxLocals = 3 := hml0
  have hown : s.vm.findClass "java/lang/String" = some m.cls := findClass_of_methodNamed Bd.named
  have hnm := (name_of_methodNamed Bd.named Bd.method).1
  have X0 : Stand p l e ({ frames := 1, cells := 0, slots := 0, locals := 14 } : Room) s m #[(.ref a), (.ref k)] below meth c s₁ [] 0 0 := Stand.of_body Bd
  have e0 : s₁.heap = h0 := by rw [← hh, Bd.state]; rfl
  have N0 := Fr.nil n0
  show OGets p e below (OLeaves s (Q_eq31 Z a b k d G y0 y1 y2 h0 n0 F ) ({ frames := 1, cells := 0, slots := 0, locals := 14 } : Room).cells ({ frames := 1, cells := 0, slots := 0, locals := 14 } : Room).slots) _
  refine OGets.enter (ef_eq31 m a k) ?_
  show OGets p e below _ (s₁.setTop (mkF m 0 #[.val (.ref a), .val (.ref k), .unset] []))
  refine OGets.step (fun _ => XS.aloadN X0.here hx rfl (hb hby dj42m66_0) rfl rfl) ?_
  refine OGets.step (fun _ => XS.aloadN X0.here hx rfl (hb hby dj42m66_1) rfl rfl) ?_
  refine OGets.step (fun _ => Jvm.RoadKit.acmp (g := (mkF m 2 #[.val (.ref a), .val (.ref k), .unset] [(.ref k), (.ref a)])) X0 hx rfl rfl rfl (pc0 := 2) (pc' := 7) (same := false) rfl (hb hby dj42m66_2) rfl (decide_eq_false (fun q => absurd (congrArg List.length (own_same (V0.fld 0 rfl 0 rfl rfl) (V0.fld 2 rfl 0 rfl rfl) (Value.ref.inj q) (V0.arr 1 rfl) (V0.arr 3 rfl))) (by simp))) (by decide) (by decide)) ?_
  refine OGets.step (fun _ => XS.aloadN X0.here hx rfl (hb hby dj42m66_7) rfl rfl) ?_
  obtain ⟨T464, X464, e464, st464⟩ := instY X0 hx hZ hown (hw _ (List.mem_of_getElem? (i := 38) rfl)) e0 (Ins.self (V0.exa 2 rfl)) (g := (mkF m 8 #[.val (.ref a), .val (.ref k), .unset] [(.ref k)])) rfl rfl (hb hby dj42m66_8)
  refine OGets.step st464 ?_
  refine OGets.step (fun _ => XS.ifNo X464.here hx rfl (hb hby dj42m66_11) rfl ((if0 _ _).trans (feq (by decide : ¬ ((1 : Int32) = (0 : Int32)))).1)) ?_
  refine OGets.step (fun _ => XS.aloadN X464.here hx rfl (hb hby dj42m66_14) rfl rfl) ?_
  obtain ⟨T466, X466, e466, st466⟩ := castY X464 hx hZ hown (hw _ (List.mem_of_getElem? (i := 38) rfl)) e464 (Ins.self (V0.exa 2 rfl)) (g := (mkF m 15 #[.val (.ref a), .val (.ref k), .unset] [(.ref k)])) rfl rfl (hb hby dj42m66_15)
  refine OGets.step st466 ?_
  refine OGets.step (fun _ => XS.astoreN X466.here hx rfl (hb hby dj42m66_18) rfl rfl (l' := #[.val (.ref a), .val (.ref k), .val (.ref k)]) rfl) ?_
  obtain ⟨T467, X467, e467, st467⟩ := getS2 X466 hx hZ hown (host := "") (Or.inl (hw _ (List.mem_of_getElem? (i := 39) rfl))) Via.refl e466 S0 (g := (mkF m 19 #[.val (.ref a), .val (.ref k), .val (.ref k)] [])) rfl (hb hby dj42m66_19)
  refine OGets.step st467 ?_
  refine OGets.step (fun _ => XS.ifNo X467.here hx rfl (hb hby dj42m66_22) rfl ((if0 _ _).trans (feq (hG : ¬ (G = (0 : Int32)))).1)) ?_
  refine OGets.step (fun _ => XS.aloadN X467.here hx rfl (hb hby dj42m66_25) rfl rfl) ?_
  obtain ⟨T469, X469, e469, st469⟩ := getF X467 hx hZ hown (host := "") (Or.inl (hw _ (List.mem_of_getElem? (i := 27) rfl))) Via.refl e467 (V0.fld 0 rfl 1 rfl rfl) (g := (mkF m 26 #[.val (.ref a), .val (.ref k), .val (.ref k)] [(.ref a)])) rfl rfl (hb hby dj42m66_26)
  refine OGets.step st469 ?_
  refine OGets.step (fun _ => XS.aloadN X469.here hx rfl (hb hby dj42m66_29) rfl rfl) ?_
  obtain ⟨T470, X470, e470, st470⟩ := getF X469 hx hZ hown (host := "") (Or.inl (hw _ (List.mem_of_getElem? (i := 27) rfl))) Via.refl e469 (V0.fld 2 rfl 1 rfl rfl) (g := (mkF m 30 #[.val (.ref a), .val (.ref k), .val (.ref k)] [(.ref k), (.int (0 : Int32))])) rfl rfl (hb hby dj42m66_30)
  refine OGets.step st470 ?_
  refine OGets.step (fun _ => XS.icmpNo X470.here hx rfl (hb hby dj42m66_33) rfl (teq (by decide : (0 : Int32) = (0 : Int32))).2) ?_
  refine OGets.step (fun _ => XS.aloadN X470.here hx rfl (hb hby dj42m66_36) rfl rfl) ?_
  obtain ⟨T472, X472, e472, st472⟩ := getF X470 hx hZ hown (host := "") (Or.inl (hw _ (List.mem_of_getElem? (i := 26) rfl))) Via.refl e470 (V0.fld 0 rfl 0 rfl rfl) (g := (mkF m 37 #[.val (.ref a), .val (.ref k), .val (.ref k)] [(.ref a)])) rfl rfl (hb hby dj42m66_37)
  refine OGets.step st472 ?_
  refine OGets.step (fun _ => XS.aloadN X472.here hx rfl (hb hby dj42m66_40) rfl rfl) ?_
  obtain ⟨T473, X473, e473, st473⟩ := getF X472 hx hZ hown (host := "") (Or.inl (hw _ (List.mem_of_getElem? (i := 26) rfl))) Via.refl e472 (V0.fld 2 rfl 0 rfl rfl) (g := (mkF m 41 #[.val (.ref a), .val (.ref k), .val (.ref k)] [(.ref k), (.ref b)])) rfl rfl (hb hby dj42m66_41)
  refine OGets.step st473 ?_
  have V474_ : ORead Z h0 (((b, Sum.inr (.byte, [(.int y0), (.int y1), (.int y2)])) : Addr × OObj) :: ((d, Sum.inr (.byte, [(.int (46 : Int32))])) : Addr × OObj) :: ((a, Sum.inl ("java/lang/String", ns_String, [(.ref b), (.int (0 : Int32))])) : Addr × OObj) :: ((k, Sum.inl ("java/lang/String", ns_String, [(.ref d), (.int (0 : Int32))])) : Addr × OObj) :: F) := ((V0.bring 3 rfl).bring 2 rfl)
  obtain ⟨_, _, ⟨T474, L474, k474, n474⟩, -, X474, ⟨Lc474, hQ474, l474, y474, z474⟩, st474⟩ := Jvm.LawKit.callS X473 hx (y := (⟨"java/lang/StringLatin1", "equals", "([B[B)Z"⟩ : MethodName)) hown (mvT hZ (hw _ (List.mem_of_getElem? (i := 40) rfl))) (mvT hZ (hw _ (List.mem_of_getElem? (i := 41) rfl))) (mvT hZ (hw _ (List.mem_of_getElem? (i := 42) rfl))) (mvT hZ (hw _ (List.mem_of_getElem? (i := 43) rfl))) (by decide) (backOf (W := 0) (rm_le31 l Z a0 hw [] b d y0 y1 y2 h0 n0 _ Z0  V474_) hZ (hw _ (List.mem_of_getElem? (i := 43) rfl)) (hw _ (List.mem_of_getElem? (i := 42) rfl)) (by decide) (by decide)) (g := (mkF m 44 #[.val (.ref a), .val (.ref k), .val (.ref k)] [(.ref d), (.ref b)])) rfl (by rw [hml]; rfl) (argsL := [(.ref b), (.ref d)]) (rest := []) (lenOf pd_12 rfl) rfl (by show 2 * 0 + _ ≤ _; exact Nat.le_of_eq rfl) (hb hby dj42m66_44) (fun _ _ => ⟨rfl, e473, Nat.le_of_ble_eq_true rfl, Nat.le_of_ble_eq_true rfl⟩)
  dsimp only [Pt.U, Pt.locs, Pt.cells, Pt.slots] at X474 l474 y474 z474 st474 hQ474
  rw [l474, y474, z474] at X474
  obtain ⟨rfl, rfl, e474⟩ := hQ474
  have X474 : Stand p l e _ s m #[(.ref a), (.ref k)] below meth c T474 [] 0 0 := X474
  refine OGets.step st474 ?_
  refine OGets.step (fun _ => XS.ifYes X474.here hx rfl (pc0 := 47) (pc' := 54) rfl (hb hby dj42m66_47) rfl ((if0 _ _).trans (teq (by decide : (0 : Int32) = (0 : Int32))).1) (by decide) (by decide)) ?_
  refine OGets.step (fun _ => XS.iconst X474.here hx rfl (hb hby dj42m66_54)) ?_
  refine OGets.retN X474 hx hlk (t := .boolean) Bd.returns (by simp) (hb hby dj42m66_55) (Nat.le_of_ble_eq_true rfl) (Nat.le_of_ble_eq_true rfl) ?_
  exact ⟨congrArg (fun z => some (Value.int z)) (show _ = (0 : Int32) from by decide), rfl, e474⟩
theorem ef_le32 (m : MethodId) (x0 : Addr) (x1 : Addr) : entryFrame m #[(.ref x0), (.ref x1)] 3 = mkF m 0 #[.val (.ref x0), .val (.ref x1), .unset] [] := by first | (simp [entryFrame, mkF, argsToLocals, Value.category]; done) | rfl
def Q_le32 (Z : State) (b : Addr) (d : Addr) (y0 : Int32) (y1 : Int32) (y2 : Int32) (h0 : Heap) (n0 : Nat) (F : List (Addr × OObj)) (v : Option Value) (h : Heap) (L : List Loc) : Prop := v = some (.int (0 : Int32)) ∧ L = [] ∧ h = h0
set_option maxRecDepth 65536 in
set_option maxHeartbeats 40000000 in
theorem rm_le32 (l : Launch) (Z : State) (a0 : Array Value) (hw : ∀ d ∈ tables_1, d.before a0 Z = true) (ws : List Jvm.Cond) (b : Addr) (d : Addr) (y0 : Int32) (y1 : Int32) (y2 : Int32) (h0 : Heap) (n0 : Nat) (F : List (Addr × OObj)) (Z0 : n0 ≤ h0.size) (V0 : ORead Z h0 (((b, Sum.inr (.byte, [(.int y0), (.int y1), (.int y2)])) : Addr × OObj) :: ((d, Sum.inr (.byte, [(.int (46 : Int32)), (.int (46 : Int32))])) : Addr × OObj) :: F)) :
    MetFree l (⟨"java/lang/StringLatin1", "equals", "([B[B)Z"⟩ : MethodName) (head1 (Jvm.Cond.code (⟨"java/lang/StringLatin1", "equals", "([B[B)Z"⟩ : MethodName) jdk_43_method_13_code 3 (some .boolean) :: ws) ({ frames := 0, cells := 0, slots := 0, locals := 0 } : Room)) (fun a_ U => a_ = #[(.ref b), (.ref d)] ∧ Z.Warmed39 U.vm ∧ U.heap = h0) (fun _ _ _ _ _ => True) (fun _ U o U' => ∃ v L, o = .returned v ∧ Q_le32 Z b d y0 y1 y2 h0 n0 F v U'.heap L ∧ FrameEnd U o U' L ({ frames := 0, cells := 0, slots := 0, locals := 0 } : Room).cells ({ frames := 0, cells := 0, slots := 0, locals := 0 } : Room).slots) := by
  refine MetFree.of_bodySF (plainFor_of_name pn_11) hisR ?_
  intro p e s m args below meth c s₁ Bd hml0 hP hK
  obtain ⟨rfl, hZ, hh⟩ := hP
  have hx := Bd.exec
  have hby := Bd.bytes
  have hlk : meth.locks = false := Bd.notSynchronized
  have hml : c.maxLocals = 3 := hml0
  have hown : s.vm.findClass "java/lang/StringLatin1" = some m.cls := findClass_of_methodNamed Bd.named
  have hnm := (name_of_methodNamed Bd.named Bd.method).1
  have X0 : Stand p l e ({ frames := 0, cells := 0, slots := 0, locals := 0 } : Room) s m #[(.ref b), (.ref d)] below meth c s₁ [] 0 0 := Stand.of_body Bd
  have e0 : s₁.heap = h0 := by rw [← hh, Bd.state]; rfl
  have N0 := Fr.nil n0
  show OGets p e below (OLeaves s (Q_le32 Z b d y0 y1 y2 h0 n0 F ) ({ frames := 0, cells := 0, slots := 0, locals := 0 } : Room).cells ({ frames := 0, cells := 0, slots := 0, locals := 0 } : Room).slots) _
  refine OGets.enter (ef_le32 m b d) ?_
  show OGets p e below _ (s₁.setTop (mkF m 0 #[.val (.ref b), .val (.ref d), .unset] []))
  refine OGets.step (fun _ => XS.aloadN X0.here hx rfl (hb hby dj43m13_0) rfl rfl) ?_
  obtain ⟨cl476, Ar476, S476⟩ := V0.arr 0 rfl
  have ln476 : cl476.slots.size.toInt32 = (3 : Int32) := by rw [own_len S476]; rfl
  refine OGets.step (U' := s₁.setTop (mkF m 2 #[.val (.ref b), .val (.ref d), .unset] [(.int (3 : Int32))])) (fun t kt => ?_) ?_
  · refine X0.arraylength hx (by rw [e0]; exact Ar476.1) (State.isArrayOf_alike hZ.alike Ar476.2.1) (g := (mkF m 1 #[.val (.ref b), .val (.ref d), .unset] [(.ref b)])) rfl rfl (hb hby dj43m13_1) _ ?_
    rw [ln476]; exact kt
  refine OGets.step (fun _ => XS.aloadN X0.here hx rfl (hb hby dj43m13_2) rfl rfl) ?_
  obtain ⟨cl477, Ar477, S477⟩ := V0.arr 1 rfl
  have ln477 : cl477.slots.size.toInt32 = (2 : Int32) := by rw [own_len S477]; rfl
  refine OGets.step (U' := s₁.setTop (mkF m 4 #[.val (.ref b), .val (.ref d), .unset] [(.int (2 : Int32)), (.int (3 : Int32))])) (fun t kt => ?_) ?_
  · refine X0.arraylength hx (by rw [e0]; exact Ar477.1) (State.isArrayOf_alike hZ.alike Ar477.2.1) (g := (mkF m 3 #[.val (.ref b), .val (.ref d), .unset] [(.ref d), (.int (3 : Int32))])) rfl rfl (hb hby dj43m13_3) _ ?_
    rw [ln477]; exact kt
  refine OGets.step (fun _ => XS.icmpYes X0.here hx rfl (pc0 := 4) (pc' := 34) rfl (hb hby dj43m13_4) rfl (feq (by decide : ¬ ((3 : Int32) = (2 : Int32)))).2 (by decide) (by decide)) ?_
  refine OGets.step (fun _ => XS.iconst X0.here hx rfl (hb hby dj43m13_34)) ?_
  show OGets p e below _ (s₁.setTop (mkF m 35 #[.val (.ref b), .val (.ref d), .unset] [(.int (0 : Int32))]))
  refine OGets.retN X0 hx hlk (t := .boolean) Bd.returns (by simp) (hb hby dj43m13_35) (Nat.le_of_ble_eq_true rfl) (Nat.le_of_ble_eq_true rfl) ?_
  exact ⟨congrArg (fun z => some (Value.int z)) (show _ = (0 : Int32) from by decide), rfl, e0⟩
theorem ef_eq32 (m : MethodId) (x0 : Addr) (x1 : Addr) : entryFrame m #[(.ref x0), (.ref x1)] 3 = mkF m 0 #[.val (.ref x0), .val (.ref x1), .unset] [] := by first | (simp [entryFrame, mkF, argsToLocals, Value.category]; done) | rfl
def Q_eq32 (Z : State) (a : Addr) (b : Addr) (k : Addr) (d : Addr) (G : Int32) (y0 : Int32) (y1 : Int32) (y2 : Int32) (h0 : Heap) (n0 : Nat) (F : List (Addr × OObj)) (v : Option Value) (h : Heap) (L : List Loc) : Prop := v = some (.int (0 : Int32)) ∧ L = [] ∧ h = h0
set_option maxRecDepth 65536 in
set_option maxHeartbeats 40000000 in
theorem rm_eq32 (l : Launch) (Z : State) (a0 : Array Value) (hw : ∀ d ∈ tables_1, d.before a0 Z = true) (ws : List Jvm.Cond) (a : Addr) (b : Addr) (k : Addr) (d : Addr) (G : Int32) (y0 : Int32) (y1 : Int32) (y2 : Int32) (h0 : Heap) (n0 : Nat) (F : List (Addr × OObj)) (Z0 : n0 ≤ h0.size) (S0 : Sta Z h0 "java/lang/String" "COMPACT_STRINGS" "Z" (.int G)) (hG : ¬ G = (0 : Int32)) (V0 : ORead Z h0 (((a, Sum.inl ("java/lang/String", ns_String, [(.ref b), (.int (0 : Int32))])) : Addr × OObj) :: ((b, Sum.inr (.byte, [(.int y0), (.int y1), (.int y2)])) : Addr × OObj) :: ((k, Sum.inl ("java/lang/String", ns_String, [(.ref d), (.int (0 : Int32))])) : Addr × OObj) :: ((d, Sum.inr (.byte, [(.int (46 : Int32)), (.int (46 : Int32))])) : Addr × OObj) :: F)) :
    MetFree l (⟨"java/lang/String", "equals", "(Ljava/lang/Object;)Z"⟩ : MethodName) (head1 (Jvm.Cond.code (⟨"java/lang/String", "equals", "(Ljava/lang/Object;)Z"⟩ : MethodName) jdk_42_method_66_code 3 (some .boolean) :: ws) ({ frames := 1, cells := 0, slots := 0, locals := 14 } : Room)) (fun a_ U => a_ = #[(.ref a), (.ref k)] ∧ Z.Warmed39 U.vm ∧ U.heap = h0) (fun _ _ _ _ _ => True) (fun _ U o U' => ∃ v L, o = .returned v ∧ Q_eq32 Z a b k d G y0 y1 y2 h0 n0 F v U'.heap L ∧ FrameEnd U o U' L ({ frames := 1, cells := 0, slots := 0, locals := 14 } : Room).cells ({ frames := 1, cells := 0, slots := 0, locals := 14 } : Room).slots) := by
  refine MetFree.of_bodySF (plainFor_of_name pn_8) hisR ?_
  intro p e s m args below meth c s₁ Bd hml0 hP hK
  obtain ⟨rfl, hZ, hh⟩ := hP
  have hx := Bd.exec
  have hby := Bd.bytes
  have hlk : meth.locks = false := Bd.notSynchronized
  have hml : c.maxLocals = 3 := hml0
  have hown : s.vm.findClass "java/lang/String" = some m.cls := findClass_of_methodNamed Bd.named
  have hnm := (name_of_methodNamed Bd.named Bd.method).1
  have X0 : Stand p l e ({ frames := 1, cells := 0, slots := 0, locals := 14 } : Room) s m #[(.ref a), (.ref k)] below meth c s₁ [] 0 0 := Stand.of_body Bd
  have e0 : s₁.heap = h0 := by rw [← hh, Bd.state]; rfl
  have N0 := Fr.nil n0
  show OGets p e below (OLeaves s (Q_eq32 Z a b k d G y0 y1 y2 h0 n0 F ) ({ frames := 1, cells := 0, slots := 0, locals := 14 } : Room).cells ({ frames := 1, cells := 0, slots := 0, locals := 14 } : Room).slots) _
  refine OGets.enter (ef_eq32 m a k) ?_
  show OGets p e below _ (s₁.setTop (mkF m 0 #[.val (.ref a), .val (.ref k), .unset] []))
  refine OGets.step (fun _ => XS.aloadN X0.here hx rfl (hb hby dj42m66_0) rfl rfl) ?_
  refine OGets.step (fun _ => XS.aloadN X0.here hx rfl (hb hby dj42m66_1) rfl rfl) ?_
  refine OGets.step (fun _ => Jvm.RoadKit.acmp (g := (mkF m 2 #[.val (.ref a), .val (.ref k), .unset] [(.ref k), (.ref a)])) X0 hx rfl rfl rfl (pc0 := 2) (pc' := 7) (same := false) rfl (hb hby dj42m66_2) rfl (decide_eq_false (fun q => absurd (congrArg List.length (own_same (V0.fld 0 rfl 0 rfl rfl) (V0.fld 2 rfl 0 rfl rfl) (Value.ref.inj q) (V0.arr 1 rfl) (V0.arr 3 rfl))) (by simp))) (by decide) (by decide)) ?_
  refine OGets.step (fun _ => XS.aloadN X0.here hx rfl (hb hby dj42m66_7) rfl rfl) ?_
  obtain ⟨T479, X479, e479, st479⟩ := instY X0 hx hZ hown (hw _ (List.mem_of_getElem? (i := 38) rfl)) e0 (Ins.self (V0.exa 2 rfl)) (g := (mkF m 8 #[.val (.ref a), .val (.ref k), .unset] [(.ref k)])) rfl rfl (hb hby dj42m66_8)
  refine OGets.step st479 ?_
  refine OGets.step (fun _ => XS.ifNo X479.here hx rfl (hb hby dj42m66_11) rfl ((if0 _ _).trans (feq (by decide : ¬ ((1 : Int32) = (0 : Int32)))).1)) ?_
  refine OGets.step (fun _ => XS.aloadN X479.here hx rfl (hb hby dj42m66_14) rfl rfl) ?_
  obtain ⟨T481, X481, e481, st481⟩ := castY X479 hx hZ hown (hw _ (List.mem_of_getElem? (i := 38) rfl)) e479 (Ins.self (V0.exa 2 rfl)) (g := (mkF m 15 #[.val (.ref a), .val (.ref k), .unset] [(.ref k)])) rfl rfl (hb hby dj42m66_15)
  refine OGets.step st481 ?_
  refine OGets.step (fun _ => XS.astoreN X481.here hx rfl (hb hby dj42m66_18) rfl rfl (l' := #[.val (.ref a), .val (.ref k), .val (.ref k)]) rfl) ?_
  obtain ⟨T482, X482, e482, st482⟩ := getS2 X481 hx hZ hown (host := "") (Or.inl (hw _ (List.mem_of_getElem? (i := 39) rfl))) Via.refl e481 S0 (g := (mkF m 19 #[.val (.ref a), .val (.ref k), .val (.ref k)] [])) rfl (hb hby dj42m66_19)
  refine OGets.step st482 ?_
  refine OGets.step (fun _ => XS.ifNo X482.here hx rfl (hb hby dj42m66_22) rfl ((if0 _ _).trans (feq (hG : ¬ (G = (0 : Int32)))).1)) ?_
  refine OGets.step (fun _ => XS.aloadN X482.here hx rfl (hb hby dj42m66_25) rfl rfl) ?_
  obtain ⟨T484, X484, e484, st484⟩ := getF X482 hx hZ hown (host := "") (Or.inl (hw _ (List.mem_of_getElem? (i := 27) rfl))) Via.refl e482 (V0.fld 0 rfl 1 rfl rfl) (g := (mkF m 26 #[.val (.ref a), .val (.ref k), .val (.ref k)] [(.ref a)])) rfl rfl (hb hby dj42m66_26)
  refine OGets.step st484 ?_
  refine OGets.step (fun _ => XS.aloadN X484.here hx rfl (hb hby dj42m66_29) rfl rfl) ?_
  obtain ⟨T485, X485, e485, st485⟩ := getF X484 hx hZ hown (host := "") (Or.inl (hw _ (List.mem_of_getElem? (i := 27) rfl))) Via.refl e484 (V0.fld 2 rfl 1 rfl rfl) (g := (mkF m 30 #[.val (.ref a), .val (.ref k), .val (.ref k)] [(.ref k), (.int (0 : Int32))])) rfl rfl (hb hby dj42m66_30)
  refine OGets.step st485 ?_
  refine OGets.step (fun _ => XS.icmpNo X485.here hx rfl (hb hby dj42m66_33) rfl (teq (by decide : (0 : Int32) = (0 : Int32))).2) ?_
  refine OGets.step (fun _ => XS.aloadN X485.here hx rfl (hb hby dj42m66_36) rfl rfl) ?_
  obtain ⟨T487, X487, e487, st487⟩ := getF X485 hx hZ hown (host := "") (Or.inl (hw _ (List.mem_of_getElem? (i := 26) rfl))) Via.refl e485 (V0.fld 0 rfl 0 rfl rfl) (g := (mkF m 37 #[.val (.ref a), .val (.ref k), .val (.ref k)] [(.ref a)])) rfl rfl (hb hby dj42m66_37)
  refine OGets.step st487 ?_
  refine OGets.step (fun _ => XS.aloadN X487.here hx rfl (hb hby dj42m66_40) rfl rfl) ?_
  obtain ⟨T488, X488, e488, st488⟩ := getF X487 hx hZ hown (host := "") (Or.inl (hw _ (List.mem_of_getElem? (i := 26) rfl))) Via.refl e487 (V0.fld 2 rfl 0 rfl rfl) (g := (mkF m 41 #[.val (.ref a), .val (.ref k), .val (.ref k)] [(.ref k), (.ref b)])) rfl rfl (hb hby dj42m66_41)
  refine OGets.step st488 ?_
  have V489_ : ORead Z h0 (((b, Sum.inr (.byte, [(.int y0), (.int y1), (.int y2)])) : Addr × OObj) :: ((d, Sum.inr (.byte, [(.int (46 : Int32)), (.int (46 : Int32))])) : Addr × OObj) :: ((a, Sum.inl ("java/lang/String", ns_String, [(.ref b), (.int (0 : Int32))])) : Addr × OObj) :: ((k, Sum.inl ("java/lang/String", ns_String, [(.ref d), (.int (0 : Int32))])) : Addr × OObj) :: F) := ((V0.bring 3 rfl).bring 2 rfl)
  obtain ⟨_, _, ⟨T489, L489, k489, n489⟩, -, X489, ⟨Lc489, hQ489, l489, y489, z489⟩, st489⟩ := Jvm.LawKit.callS X488 hx (y := (⟨"java/lang/StringLatin1", "equals", "([B[B)Z"⟩ : MethodName)) hown (mvT hZ (hw _ (List.mem_of_getElem? (i := 40) rfl))) (mvT hZ (hw _ (List.mem_of_getElem? (i := 41) rfl))) (mvT hZ (hw _ (List.mem_of_getElem? (i := 42) rfl))) (mvT hZ (hw _ (List.mem_of_getElem? (i := 43) rfl))) (by decide) (backOf (W := 0) (rm_le32 l Z a0 hw [] b d y0 y1 y2 h0 n0 _ Z0  V489_) hZ (hw _ (List.mem_of_getElem? (i := 43) rfl)) (hw _ (List.mem_of_getElem? (i := 42) rfl)) (by decide) (by decide)) (g := (mkF m 44 #[.val (.ref a), .val (.ref k), .val (.ref k)] [(.ref d), (.ref b)])) rfl (by rw [hml]; rfl) (argsL := [(.ref b), (.ref d)]) (rest := []) (lenOf pd_12 rfl) rfl (by show 2 * 0 + _ ≤ _; exact Nat.le_of_eq rfl) (hb hby dj42m66_44) (fun _ _ => ⟨rfl, e488, Nat.le_of_ble_eq_true rfl, Nat.le_of_ble_eq_true rfl⟩)
  dsimp only [Pt.U, Pt.locs, Pt.cells, Pt.slots] at X489 l489 y489 z489 st489 hQ489
  rw [l489, y489, z489] at X489
  obtain ⟨rfl, rfl, e489⟩ := hQ489
  have X489 : Stand p l e _ s m #[(.ref a), (.ref k)] below meth c T489 [] 0 0 := X489
  refine OGets.step st489 ?_
  refine OGets.step (fun _ => XS.ifYes X489.here hx rfl (pc0 := 47) (pc' := 54) rfl (hb hby dj42m66_47) rfl ((if0 _ _).trans (teq (by decide : (0 : Int32) = (0 : Int32))).1) (by decide) (by decide)) ?_
  refine OGets.step (fun _ => XS.iconst X489.here hx rfl (hb hby dj42m66_54)) ?_
  refine OGets.retN X489 hx hlk (t := .boolean) Bd.returns (by simp) (hb hby dj42m66_55) (Nat.le_of_ble_eq_true rfl) (Nat.le_of_ble_eq_true rfl) ?_
  exact ⟨congrArg (fun z => some (Value.int z)) (show _ = (0 : Int32) from by decide), rfl, e489⟩
theorem ef_equ (m : MethodId) (x0 : Addr) (x1 : Addr) : entryFrame m #[(.ref x0), (.ref x1)] 3 = mkF m 0 #[.val (.ref x0), .val (.ref x1), .unset] [] := by first | (simp [entryFrame, mkF, argsToLocals, Value.category]; done) | rfl
def Q_equ (Z : State) (a : Addr) (b : Addr) (k : Addr) (d : Addr) (G : Int32) (h0 : Heap) (n0 : Nat) (F : List (Addr × OObj)) (v : Option Value) (h : Heap) (L : List Loc) : Prop := v = some (.int (0 : Int32)) ∧ L = [] ∧ h = h0
set_option maxRecDepth 65536 in
set_option maxHeartbeats 40000000 in
theorem rm_equ (l : Launch) (Z : State) (a0 : Array Value) (hw : ∀ d ∈ tables_1, d.before a0 Z = true) (ws : List Jvm.Cond) (a : Addr) (b : Addr) (k : Addr) (d : Addr) (G : Int32) (h0 : Heap) (n0 : Nat) (F : List (Addr × OObj)) (Z0 : n0 ≤ h0.size) (S0 : Sta Z h0 "java/lang/String" "COMPACT_STRINGS" "Z" (.int G)) (hG : ¬ G = (0 : Int32)) (V0 : ORead Z h0 (((a, Sum.inl ("java/lang/String", ns_String, [(.ref b), (.int (1 : Int32))])) : Addr × OObj) :: ((k, Sum.inl ("java/lang/String", ns_String, [(.ref d), (.int (0 : Int32))])) : Addr × OObj) :: F)) :
    MetFree l (⟨"java/lang/String", "equals", "(Ljava/lang/Object;)Z"⟩ : MethodName) (head1 (Jvm.Cond.code (⟨"java/lang/String", "equals", "(Ljava/lang/Object;)Z"⟩ : MethodName) jdk_42_method_66_code 3 (some .boolean) :: ws) ({ frames := 0, cells := 0, slots := 0, locals := 0 } : Room)) (fun a_ U => a_ = #[(.ref a), (.ref k)] ∧ Z.Warmed39 U.vm ∧ U.heap = h0) (fun _ _ _ _ _ => True) (fun _ U o U' => ∃ v L, o = .returned v ∧ Q_equ Z a b k d G h0 n0 F v U'.heap L ∧ FrameEnd U o U' L ({ frames := 0, cells := 0, slots := 0, locals := 0 } : Room).cells ({ frames := 0, cells := 0, slots := 0, locals := 0 } : Room).slots) := by
  refine MetFree.of_bodySF (plainFor_of_name pn_8) hisR ?_
  intro p e s m args below meth c s₁ Bd hml0 hP hK
  obtain ⟨rfl, hZ, hh⟩ := hP
  have hx := Bd.exec
  have hby := Bd.bytes
  have hlk : meth.locks = false := Bd.notSynchronized
  have hml : c.maxLocals = 3 := hml0
  have hown : s.vm.findClass "java/lang/String" = some m.cls := findClass_of_methodNamed Bd.named
  have hnm := (name_of_methodNamed Bd.named Bd.method).1
  have X0 : Stand p l e ({ frames := 0, cells := 0, slots := 0, locals := 0 } : Room) s m #[(.ref a), (.ref k)] below meth c s₁ [] 0 0 := Stand.of_body Bd
  have e0 : s₁.heap = h0 := by rw [← hh, Bd.state]; rfl
  have N0 := Fr.nil n0
  show OGets p e below (OLeaves s (Q_equ Z a b k d G h0 n0 F ) ({ frames := 0, cells := 0, slots := 0, locals := 0 } : Room).cells ({ frames := 0, cells := 0, slots := 0, locals := 0 } : Room).slots) _
  refine OGets.enter (ef_equ m a k) ?_
  show OGets p e below _ (s₁.setTop (mkF m 0 #[.val (.ref a), .val (.ref k), .unset] []))
  refine OGets.step (fun _ => XS.aloadN X0.here hx rfl (hb hby dj42m66_0) rfl rfl) ?_
  refine OGets.step (fun _ => XS.aloadN X0.here hx rfl (hb hby dj42m66_1) rfl rfl) ?_
  refine OGets.step (fun _ => Jvm.RoadKit.acmp (g := (mkF m 2 #[.val (.ref a), .val (.ref k), .unset] [(.ref k), (.ref a)])) X0 hx rfl rfl rfl (pc0 := 2) (pc' := 7) (same := false) rfl (hb hby dj42m66_2) rfl (decide_eq_false (fun q => Fld.ne (V0.fld 0 rfl 1 rfl rfl) (V0.fld 1 rfl 1 rfl rfl) (by decide) (Value.ref.inj q))) (by decide) (by decide)) ?_
  refine OGets.step (fun _ => XS.aloadN X0.here hx rfl (hb hby dj42m66_7) rfl rfl) ?_
  obtain ⟨T491, X491, e491, st491⟩ := instY X0 hx hZ hown (hw _ (List.mem_of_getElem? (i := 38) rfl)) e0 (Ins.self (V0.exa 1 rfl)) (g := (mkF m 8 #[.val (.ref a), .val (.ref k), .unset] [(.ref k)])) rfl rfl (hb hby dj42m66_8)
  refine OGets.step st491 ?_
  refine OGets.step (fun _ => XS.ifNo X491.here hx rfl (hb hby dj42m66_11) rfl ((if0 _ _).trans (feq (by decide : ¬ ((1 : Int32) = (0 : Int32)))).1)) ?_
  refine OGets.step (fun _ => XS.aloadN X491.here hx rfl (hb hby dj42m66_14) rfl rfl) ?_
  obtain ⟨T493, X493, e493, st493⟩ := castY X491 hx hZ hown (hw _ (List.mem_of_getElem? (i := 38) rfl)) e491 (Ins.self (V0.exa 1 rfl)) (g := (mkF m 15 #[.val (.ref a), .val (.ref k), .unset] [(.ref k)])) rfl rfl (hb hby dj42m66_15)
  refine OGets.step st493 ?_
  refine OGets.step (fun _ => XS.astoreN X493.here hx rfl (hb hby dj42m66_18) rfl rfl (l' := #[.val (.ref a), .val (.ref k), .val (.ref k)]) rfl) ?_
  obtain ⟨T494, X494, e494, st494⟩ := getS2 X493 hx hZ hown (host := "") (Or.inl (hw _ (List.mem_of_getElem? (i := 39) rfl))) Via.refl e493 S0 (g := (mkF m 19 #[.val (.ref a), .val (.ref k), .val (.ref k)] [])) rfl (hb hby dj42m66_19)
  refine OGets.step st494 ?_
  refine OGets.step (fun _ => XS.ifNo X494.here hx rfl (hb hby dj42m66_22) rfl ((if0 _ _).trans (feq (hG : ¬ (G = (0 : Int32)))).1)) ?_
  refine OGets.step (fun _ => XS.aloadN X494.here hx rfl (hb hby dj42m66_25) rfl rfl) ?_
  obtain ⟨T496, X496, e496, st496⟩ := getF X494 hx hZ hown (host := "") (Or.inl (hw _ (List.mem_of_getElem? (i := 27) rfl))) Via.refl e494 (V0.fld 0 rfl 1 rfl rfl) (g := (mkF m 26 #[.val (.ref a), .val (.ref k), .val (.ref k)] [(.ref a)])) rfl rfl (hb hby dj42m66_26)
  refine OGets.step st496 ?_
  refine OGets.step (fun _ => XS.aloadN X496.here hx rfl (hb hby dj42m66_29) rfl rfl) ?_
  obtain ⟨T497, X497, e497, st497⟩ := getF X496 hx hZ hown (host := "") (Or.inl (hw _ (List.mem_of_getElem? (i := 27) rfl))) Via.refl e496 (V0.fld 1 rfl 1 rfl rfl) (g := (mkF m 30 #[.val (.ref a), .val (.ref k), .val (.ref k)] [(.ref k), (.int (1 : Int32))])) rfl rfl (hb hby dj42m66_30)
  refine OGets.step st497 ?_
  refine OGets.step (fun _ => XS.icmpYes X497.here hx rfl (pc0 := 33) (pc' := 54) rfl (hb hby dj42m66_33) rfl (feq (by decide : ¬ ((1 : Int32) = (0 : Int32)))).2 (by decide) (by decide)) ?_
  refine OGets.step (fun _ => XS.iconst X497.here hx rfl (hb hby dj42m66_54)) ?_
  refine OGets.retN X497 hx hlk (t := .boolean) Bd.returns (by simp) (hb hby dj42m66_55) (Nat.le_of_ble_eq_true rfl) (Nat.le_of_ble_eq_true rfl) ?_
  exact ⟨congrArg (fun z => some (Value.int z)) (show _ = (0 : Int32) from by decide), rfl, e497⟩
theorem own_ext0 (h : Heap) : Ext h h := ⟨Nat.le_refl _, fun _ _ q => q⟩
theorem own_ext {h h1 h2 : Heap} (A : Ext h h1) (B : Ext h1 h2) : Ext h h2 := ⟨Nat.le_trans A.1 B.1, fun a c q => B.2 a c (A.2 a c q)⟩
theorem pn_13 : plainName "com/example/hermod/hermod/PercentEncoding" = true := by first | (simp [plainName, overriddenIn]; done) | decide +kernel
theorem d11m6_0 : decode prog_11_method_6_code 0 = .ok (.aload_n 0, 1) := by decide +kernel
theorem d11m6_1 : decode prog_11_method_6_code 1 = .ok (.ldc 91, 2) := by decide +kernel
theorem d11m6_3 : decode prog_11_method_6_code 3 = .ok (.invokevirtual 93, 3) := by decide +kernel
theorem pd_14 : parseMethodDescriptor "(Ljava/lang/Object;)Z" = some ⟨[(.object "java/lang/Object")], some .boolean⟩ := by decide +kernel
theorem d11m6_6 : decode prog_11_method_6_code 6 = .ok (.ifCond .ne 12, 3) := by decide +kernel
theorem d11m6_9 : decode prog_11_method_6_code 9 = .ok (.aload_n 0, 1) := by decide +kernel
theorem d11m6_10 : decode prog_11_method_6_code 10 = .ok (.ldc 97, 2) := by decide +kernel
theorem d11m6_12 : decode prog_11_method_6_code 12 = .ok (.invokevirtual 93, 3) := by decide +kernel
theorem d11m6_15 : decode prog_11_method_6_code 15 = .ok (.ifCond .eq 7, 3) := by decide +kernel
theorem d11m6_22 : decode prog_11_method_6_code 22 = .ok (.iconst 0, 1) := by decide +kernel
theorem d11m6_23 : decode prog_11_method_6_code 23 = .ok (.ireturn, 1) := by decide +kernel
theorem ef_idu (m : MethodId) (x0 : Addr) : entryFrame m #[(.ref x0)] 1 = mkF m 0 #[.val (.ref x0)] [] := by first | (simp [entryFrame, mkF, argsToLocals, Value.category]; done) | rfl
def Q_idu (Z : State) (a : Addr) (b : Addr) (G : Int32) (EL : List (String × Nat)) (h0 : Heap) (n0 : Nat) (F : List (Addr × OObj)) (v : Option Value) (h : Heap) (L : List Loc) : Prop := v = some (.int (0 : Int32)) ∧ L = [] ∧ Ext h0 h
set_option maxRecDepth 65536 in
set_option maxHeartbeats 40000000 in
theorem rm_idu (l : Launch) (Z : State) (a0 : Array Value) (hw : ∀ d ∈ tables_1, d.before a0 Z = true) (ws : List Jvm.Cond) (a : Addr) (b : Addr) (G : Int32) (EL : List (String × Nat)) (h0 : Heap) (n0 : Nat) (F : List (Addr × OObj)) (Z0 : n0 ≤ h0.size) (S0 : Sta Z h0 "java/lang/String" "COMPACT_STRINGS" "Z" (.int G)) (hG : ¬ G = (0 : Int32)) (hm91 : (("com/example/hermod/hermod/PercentEncoding", 91) : String × Nat) ∈ EL) (hm97 : (("com/example/hermod/hermod/PercentEncoding", 97) : String × Nat) ∈ EL) (hEL : EW Z a0 EL) (V0 : ORead Z h0 (((a, Sum.inl ("java/lang/String", ns_String, [(.ref b), (.int (1 : Int32))])) : Addr × OObj) :: F)) :
    MetFree l (⟨"com/example/hermod/hermod/PercentEncoding", "isDotSegment", "(Ljava/lang/String;)Z"⟩ : MethodName) (head1 (Jvm.Cond.code (⟨"com/example/hermod/hermod/PercentEncoding", "isDotSegment", "(Ljava/lang/String;)Z"⟩ : MethodName) prog_11_method_6_code 1 (some .boolean) :: ws) ({ frames := 1, cells := 4, slots := 20, locals := 14 } : Room)) (fun a_ U => a_ = #[(.ref a)] ∧ Z.Warmed39 U.vm ∧ U.heap = h0 ∧ CHv Z EL U.vm h0) (fun _ _ _ _ _ => True) (fun _ U o U' => ∃ v L, o = .returned v ∧ Q_idu Z a b G EL h0 n0 F v U'.heap L ∧ CHr Z EL U.vm U.heap U'.vm U'.heap ∧ ReturnedEndW U o U' L ({ frames := 1, cells := 4, slots := 20, locals := 14 } : Room).cells ({ frames := 1, cells := 4, slots := 20, locals := 14 } : Room).slots) := by
  refine MetFree.of_bodySF (plainFor_of_name pn_13) hisR ?_
  intro p e s m args below meth c s₁ Bd hml0 hP hK
  obtain ⟨rfl, hZ, hh, hCH⟩ := hP
  have hx := Bd.exec
  have hby := Bd.bytes
  have hlk : meth.locks = false := Bd.notSynchronized
  have hml : c.maxLocals = 1 := hml0
  have hown : s.vm.findClass "com/example/hermod/hermod/PercentEncoding" = some m.cls := findClass_of_methodNamed Bd.named
  have hnm := (name_of_methodNamed Bd.named Bd.method).1
  have X0 : Stand p l e ({ frames := 1, cells := 4, slots := 20, locals := 14 } : Room) s m #[(.ref a)] below meth c s₁ [] 0 0 := Stand.of_body Bd
  have e0 : s₁.heap = h0 := by rw [← hh, Bd.state]; rfl
  have N0 := Fr.nil n0
  show OGets p e below (OLeavesW s Z EL (Q_idu Z a b G EL h0 n0 F ) ({ frames := 1, cells := 4, slots := 20, locals := 14 } : Room).cells ({ frames := 1, cells := 4, slots := 20, locals := 14 } : Room).slots) _
  refine OGets.enter (ef_idu m a) ?_
  show OGets p e below _ (s₁.setTop (mkF m 0 #[.val (.ref a)] []))
  refine OGets.step (fun _ => XS.aloadN X0.here hx rfl (hb hby d11m6_0) rfl rfl) ?_
  obtain ⟨a499, T499, h499, k499, b499, kc499, X499, e499, E499, S499, hk499, hZ499, hown499, Ex499, Fc499, Fv499, Av499, la499, lb499, R499', -, ne499, st499⟩ := ldcCH (EL := EL) (show Stand p l e _ (s.setVm s.vm) m #[(.ref a)] below meth c s₁ _ _ _ from X0) hx hZ hown (hw _ (List.mem_of_getElem? (i := 32) rfl)) (own_wS hw) e0 (State.WarmedH.since (State.WarmedH.refl s) 0) (Nat.zero_le _) hEL hm91 hCH (vs := [(.int (46 : Int32))]) (z := (1 : Int32)) ⟨by decide +kernel, by decide +kernel⟩ (by decide) (by decide) (g := (mkF m 1 #[.val (.ref a)] [(.ref a)])) rfl (hb hby d11m6_1) (n := 4) (by decide +kernel) (by decide) (by decide) (by decide)
  have R499 : CHr Z EL s.vm h0 T499.vm h499 := R499'
  have Vs499 : OView Z 0 h499 (((a499, Sum.inl ("java/lang/String", ns_String, [(.ref b499), (.int (0 : Int32))])) : Addr × OObj) :: ((b499, Sum.inr (.byte, [(.int (46 : Int32))])) : Addr × OObj) :: []) := own_str (lay_ns_String hw) (hw _ (List.mem_of_getElem? (i := 7) rfl)) Ex499 Fv499 Fc499 Av499 (by decide)
  have Vr499 : ORead Z h499 (((a499, Sum.inl ("java/lang/String", ns_String, [(.ref b499), (.int (0 : Int32))])) : Addr × OObj) :: ((b499, Sum.inr (.byte, [(.int (46 : Int32))])) : Addr × OObj) :: ((a, Sum.inl ("java/lang/String", ns_String, [(.ref b), (.int (1 : Int32))])) : Addr × OObj) :: F) := ORead.app Vs499.read (V0.ext E499)
  refine OGets.step st499 ?_
  have V500_ : ORead Z h499 (((a, Sum.inl ("java/lang/String", ns_String, [(.ref b), (.int (1 : Int32))])) : Addr × OObj) :: ((a499, Sum.inl ("java/lang/String", ns_String, [(.ref b499), (.int (0 : Int32))])) : Addr × OObj) :: ((b499, Sum.inr (.byte, [(.int (46 : Int32))])) : Addr × OObj) :: F) := (Vr499.bring 2 rfl)
  obtain ⟨cq500, kq500, q500a, q500b, q500c⟩ := isOf hZ499 e499 (V500_.exa 0 rfl)
  obtain ⟨_, _, ⟨T500, L500, k500, n500⟩, -, X500, ⟨Lc500, hQ500, l500, y500, z500⟩, st500⟩ := X499.virtualBack hx (y := (⟨"java/lang/String", "equals", "(Ljava/lang/Object;)Z"⟩ : MethodName)) (z := (⟨"java/lang/String", "equals", "(Ljava/lang/Object;)Z"⟩ : MethodName)) hown499 (mvT hZ499 (hw _ (List.mem_of_getElem? (i := 33) rfl))) (mvT hZ499 (hw _ (List.mem_of_getElem? (i := 34) rfl))) (notFace_of_selects (args := #[]) (mvT hZ499 (hw _ (List.mem_of_getElem? (i := 36) rfl)))) (mvT hZ499 (hw _ (List.mem_of_getElem? (i := 36) rfl))) (mvT hZ499 (hw _ (List.mem_of_getElem? (i := 35) rfl))) (by decide) (backOf (W := 0) (rm_equ l Z a0 hw [] a b a499 b499 G h499 n0 _ (Nat.le_trans Z0 E499.1) (S0.ext E499) hG V500_) hZ499 (hw _ (List.mem_of_getElem? (i := 37) rfl)) (hw _ (List.mem_of_getElem? (i := 8) rfl)) (by decide) (by decide)) q500a q500c (g := (mkF m 3 #[.val (.ref a)] [(.ref a499), (.ref a)])) rfl (by rw [hml]; rfl) (Steps.refl _) (argsL := [(.ref a499)]) (rest := []) (lenOf pd_14 rfl) rfl (by show 2 * 0 + _ ≤ _; exact Nat.le_of_eq rfl) (hb hby d11m6_3) (fun _ _ => ⟨rfl, e499, Nat.le_of_ble_eq_true rfl, Nat.le_of_ble_eq_true rfl⟩)
  dsimp only [Pt.U, Pt.locs, Pt.cells, Pt.slots] at X500 l500 y500 z500 st500 hQ500
  rw [l500, y500, z500] at X500
  obtain ⟨rfl, rfl, e500⟩ := hQ500
  have X500 : Stand p l e _ (s.setVm T499.vm) m #[(.ref a)] below meth c T500 [] 2 8 := X500
  refine OGets.after st500 ?_
  refine OGets.step (fun _ => XS.ifNo X500.here hx rfl (hb hby d11m6_6) rfl ((if0 _ _).trans (teq (by decide : (0 : Int32) = (0 : Int32))).2)) ?_
  refine OGets.step (fun _ => XS.aloadN X500.here hx rfl (hb hby d11m6_9) rfl rfl) ?_
  obtain ⟨a502, T502, h502, k502, b502, kc502, X502, e502, E502, S502, hk502, hZ502, hown502, Ex502, Fc502, Fv502, Av502, la502, lb502, R502', -, ne502, st502⟩ := ldcCH (EL := EL) X500 hx hZ499 hown499 (hw _ (List.mem_of_getElem? (i := 44) rfl)) (own_wS hw) e500 S499 hk499 hEL hm97 R499.1 (vs := [(.int (46 : Int32)), (.int (46 : Int32))]) (z := (2 : Int32)) ⟨by decide +kernel, by decide +kernel⟩ (by decide) (by decide) (g := (mkF m 10 #[.val (.ref a)] [(.ref a)])) rfl (hb hby d11m6_10) (n := 8) (by decide +kernel) (by decide) (by decide) (by decide)
  have R502 : CHr Z EL s.vm h0 T502.vm h502 := R499.trans R502'
  have Vs502 : OView Z 0 h502 (((a502, Sum.inl ("java/lang/String", ns_String, [(.ref b502), (.int (0 : Int32))])) : Addr × OObj) :: ((b502, Sum.inr (.byte, [(.int (46 : Int32)), (.int (46 : Int32))])) : Addr × OObj) :: []) := own_str (lay_ns_String hw) (hw _ (List.mem_of_getElem? (i := 7) rfl)) Ex502 Fv502 Fc502 Av502 (by decide)
  have Vr502 : ORead Z h502 (((a502, Sum.inl ("java/lang/String", ns_String, [(.ref b502), (.int (0 : Int32))])) : Addr × OObj) :: ((b502, Sum.inr (.byte, [(.int (46 : Int32)), (.int (46 : Int32))])) : Addr × OObj) :: ((a, Sum.inl ("java/lang/String", ns_String, [(.ref b), (.int (1 : Int32))])) : Addr × OObj) :: ((a499, Sum.inl ("java/lang/String", ns_String, [(.ref b499), (.int (0 : Int32))])) : Addr × OObj) :: ((b499, Sum.inr (.byte, [(.int (46 : Int32))])) : Addr × OObj) :: F) := ORead.app Vs502.read (V500_.ext E502)
  refine OGets.step st502 ?_
  have V503_ : ORead Z h502 (((a, Sum.inl ("java/lang/String", ns_String, [(.ref b), (.int (1 : Int32))])) : Addr × OObj) :: ((a502, Sum.inl ("java/lang/String", ns_String, [(.ref b502), (.int (0 : Int32))])) : Addr × OObj) :: ((b502, Sum.inr (.byte, [(.int (46 : Int32)), (.int (46 : Int32))])) : Addr × OObj) :: ((a499, Sum.inl ("java/lang/String", ns_String, [(.ref b499), (.int (0 : Int32))])) : Addr × OObj) :: ((b499, Sum.inr (.byte, [(.int (46 : Int32))])) : Addr × OObj) :: F) := (Vr502.bring 2 rfl)
  obtain ⟨cq503, kq503, q503a, q503b, q503c⟩ := isOf hZ502 e502 (V503_.exa 0 rfl)
  obtain ⟨_, _, ⟨T503, L503, k503, n503⟩, -, X503, ⟨Lc503, hQ503, l503, y503, z503⟩, st503⟩ := X502.virtualBack hx (y := (⟨"java/lang/String", "equals", "(Ljava/lang/Object;)Z"⟩ : MethodName)) (z := (⟨"java/lang/String", "equals", "(Ljava/lang/Object;)Z"⟩ : MethodName)) hown502 (mvT hZ502 (hw _ (List.mem_of_getElem? (i := 33) rfl))) (mvT hZ502 (hw _ (List.mem_of_getElem? (i := 34) rfl))) (notFace_of_selects (args := #[]) (mvT hZ502 (hw _ (List.mem_of_getElem? (i := 36) rfl)))) (mvT hZ502 (hw _ (List.mem_of_getElem? (i := 36) rfl))) (mvT hZ502 (hw _ (List.mem_of_getElem? (i := 35) rfl))) (by decide) (backOf (W := 0) (rm_equ l Z a0 hw [] a b a502 b502 G h502 n0 _ (Nat.le_trans (Nat.le_trans Z0 E499.1) E502.1) ((S0.ext E499).ext E502) hG V503_) hZ502 (hw _ (List.mem_of_getElem? (i := 37) rfl)) (hw _ (List.mem_of_getElem? (i := 8) rfl)) (by decide) (by decide)) q503a q503c (g := (mkF m 12 #[.val (.ref a)] [(.ref a502), (.ref a)])) rfl (by rw [hml]; rfl) (Steps.refl _) (argsL := [(.ref a502)]) (rest := []) (lenOf pd_14 rfl) rfl (by show 2 * 0 + _ ≤ _; exact Nat.le_of_eq rfl) (hb hby d11m6_12) (fun _ _ => ⟨rfl, e502, Nat.le_of_ble_eq_true rfl, Nat.le_of_ble_eq_true rfl⟩)
  dsimp only [Pt.U, Pt.locs, Pt.cells, Pt.slots] at X503 l503 y503 z503 st503 hQ503
  rw [l503, y503, z503] at X503
  obtain ⟨rfl, rfl, e503⟩ := hQ503
  have X503 : Stand p l e _ (s.setVm T502.vm) m #[(.ref a)] below meth c T503 [] 4 20 := X503
  refine OGets.after st503 ?_
  refine OGets.step (fun _ => XS.ifYes X503.here hx rfl (pc0 := 15) (pc' := 22) rfl (hb hby d11m6_15) rfl ((if0 _ _).trans (teq (by decide : (0 : Int32) = (0 : Int32))).1) (by decide) (by decide)) ?_
  refine OGets.step (fun _ => XS.iconst X503.here hx rfl (hb hby d11m6_22)) ?_
  refine OGets.retNW X503 hx hlk (t := .boolean) Bd.returns (by simp) (hb hby d11m6_23) S502 (by rw [e503]; exact hk502) (by rw [hh, e503]; exact R502.trans (CHv.at X503 hZ502 hEL R502.1)) (Nat.le_of_ble_eq_true rfl) (Nat.le_of_ble_eq_true rfl) ?_
  refine ⟨congrArg (fun z => some (Value.int z)) (show _ = (0 : Int32) from by decide), rfl, ?_⟩
  rw [e503]
  exact (own_ext (own_ext (own_ext0 h0) E499) E502)
theorem ef_id0 (m : MethodId) (x0 : Addr) : entryFrame m #[(.ref x0)] 1 = mkF m 0 #[.val (.ref x0)] [] := by first | (simp [entryFrame, mkF, argsToLocals, Value.category]; done) | rfl
def Q_id0 (Z : State) (a : Addr) (b : Addr) (G : Int32) (EL : List (String × Nat)) (h0 : Heap) (n0 : Nat) (F : List (Addr × OObj)) (v : Option Value) (h : Heap) (L : List Loc) : Prop := v = some (.int (0 : Int32)) ∧ L = [] ∧ Ext h0 h
set_option maxRecDepth 65536 in
set_option maxHeartbeats 40000000 in
theorem rm_id0 (l : Launch) (Z : State) (a0 : Array Value) (hw : ∀ d ∈ tables_1, d.before a0 Z = true) (ws : List Jvm.Cond) (a : Addr) (b : Addr) (G : Int32) (EL : List (String × Nat)) (h0 : Heap) (n0 : Nat) (F : List (Addr × OObj)) (Z0 : n0 ≤ h0.size) (S0 : Sta Z h0 "java/lang/String" "COMPACT_STRINGS" "Z" (.int G)) (hG : ¬ G = (0 : Int32)) (hm91 : (("com/example/hermod/hermod/PercentEncoding", 91) : String × Nat) ∈ EL) (hm97 : (("com/example/hermod/hermod/PercentEncoding", 97) : String × Nat) ∈ EL) (hEL : EW Z a0 EL) (V0 : ORead Z h0 (((a, Sum.inl ("java/lang/String", ns_String, [(.ref b), (.int (0 : Int32))])) : Addr × OObj) :: ((b, Sum.inr (.byte, [])) : Addr × OObj) :: F)) :
    MetFree l (⟨"com/example/hermod/hermod/PercentEncoding", "isDotSegment", "(Ljava/lang/String;)Z"⟩ : MethodName) (head1 (Jvm.Cond.code (⟨"com/example/hermod/hermod/PercentEncoding", "isDotSegment", "(Ljava/lang/String;)Z"⟩ : MethodName) prog_11_method_6_code 1 (some .boolean) :: ws) ({ frames := 2, cells := 4, slots := 20, locals := 28 } : Room)) (fun a_ U => a_ = #[(.ref a)] ∧ Z.Warmed39 U.vm ∧ U.heap = h0 ∧ CHv Z EL U.vm h0) (fun _ _ _ _ _ => True) (fun _ U o U' => ∃ v L, o = .returned v ∧ Q_id0 Z a b G EL h0 n0 F v U'.heap L ∧ CHr Z EL U.vm U.heap U'.vm U'.heap ∧ ReturnedEndW U o U' L ({ frames := 2, cells := 4, slots := 20, locals := 28 } : Room).cells ({ frames := 2, cells := 4, slots := 20, locals := 28 } : Room).slots) := by
  refine MetFree.of_bodySF (plainFor_of_name pn_13) hisR ?_
  intro p e s m args below meth c s₁ Bd hml0 hP hK
  obtain ⟨rfl, hZ, hh, hCH⟩ := hP
  have hx := Bd.exec
  have hby := Bd.bytes
  have hlk : meth.locks = false := Bd.notSynchronized
  have hml : c.maxLocals = 1 := hml0
  have hown : s.vm.findClass "com/example/hermod/hermod/PercentEncoding" = some m.cls := findClass_of_methodNamed Bd.named
  have hnm := (name_of_methodNamed Bd.named Bd.method).1
  have X0 : Stand p l e ({ frames := 2, cells := 4, slots := 20, locals := 28 } : Room) s m #[(.ref a)] below meth c s₁ [] 0 0 := Stand.of_body Bd
  have e0 : s₁.heap = h0 := by rw [← hh, Bd.state]; rfl
  have N0 := Fr.nil n0
  show OGets p e below (OLeavesW s Z EL (Q_id0 Z a b G EL h0 n0 F ) ({ frames := 2, cells := 4, slots := 20, locals := 28 } : Room).cells ({ frames := 2, cells := 4, slots := 20, locals := 28 } : Room).slots) _
  refine OGets.enter (ef_id0 m a) ?_
  show OGets p e below _ (s₁.setTop (mkF m 0 #[.val (.ref a)] []))
  refine OGets.step (fun _ => XS.aloadN X0.here hx rfl (hb hby d11m6_0) rfl rfl) ?_
  obtain ⟨a505, T505, h505, k505, b505, kc505, X505, e505, E505, S505, hk505, hZ505, hown505, Ex505, Fc505, Fv505, Av505, la505, lb505, R505', -, ne505, st505⟩ := ldcCH (EL := EL) (show Stand p l e _ (s.setVm s.vm) m #[(.ref a)] below meth c s₁ _ _ _ from X0) hx hZ hown (hw _ (List.mem_of_getElem? (i := 32) rfl)) (own_wS hw) e0 (State.WarmedH.since (State.WarmedH.refl s) 0) (Nat.zero_le _) hEL hm91 hCH (vs := [(.int (46 : Int32))]) (z := (1 : Int32)) ⟨by decide +kernel, by decide +kernel⟩ (by decide) (by decide) (g := (mkF m 1 #[.val (.ref a)] [(.ref a)])) rfl (hb hby d11m6_1) (n := 4) (by decide +kernel) (by decide) (by decide) (by decide)
  have R505 : CHr Z EL s.vm h0 T505.vm h505 := R505'
  have Vs505 : OView Z 0 h505 (((a505, Sum.inl ("java/lang/String", ns_String, [(.ref b505), (.int (0 : Int32))])) : Addr × OObj) :: ((b505, Sum.inr (.byte, [(.int (46 : Int32))])) : Addr × OObj) :: []) := own_str (lay_ns_String hw) (hw _ (List.mem_of_getElem? (i := 7) rfl)) Ex505 Fv505 Fc505 Av505 (by decide)
  have Vr505 : ORead Z h505 (((a505, Sum.inl ("java/lang/String", ns_String, [(.ref b505), (.int (0 : Int32))])) : Addr × OObj) :: ((b505, Sum.inr (.byte, [(.int (46 : Int32))])) : Addr × OObj) :: ((a, Sum.inl ("java/lang/String", ns_String, [(.ref b), (.int (0 : Int32))])) : Addr × OObj) :: ((b, Sum.inr (.byte, [])) : Addr × OObj) :: F) := ORead.app Vs505.read (V0.ext E505)
  refine OGets.step st505 ?_
  have V506_ : ORead Z h505 (((a, Sum.inl ("java/lang/String", ns_String, [(.ref b), (.int (0 : Int32))])) : Addr × OObj) :: ((b, Sum.inr (.byte, [])) : Addr × OObj) :: ((a505, Sum.inl ("java/lang/String", ns_String, [(.ref b505), (.int (0 : Int32))])) : Addr × OObj) :: ((b505, Sum.inr (.byte, [(.int (46 : Int32))])) : Addr × OObj) :: F) := ((Vr505.bring 3 rfl).bring 3 rfl)
  obtain ⟨cq506, kq506, q506a, q506b, q506c⟩ := isOf hZ505 e505 (V506_.exa 0 rfl)
  obtain ⟨_, _, ⟨T506, L506, k506, n506⟩, -, X506, ⟨Lc506, hQ506, l506, y506, z506⟩, st506⟩ := X505.virtualBack hx (y := (⟨"java/lang/String", "equals", "(Ljava/lang/Object;)Z"⟩ : MethodName)) (z := (⟨"java/lang/String", "equals", "(Ljava/lang/Object;)Z"⟩ : MethodName)) hown505 (mvT hZ505 (hw _ (List.mem_of_getElem? (i := 33) rfl))) (mvT hZ505 (hw _ (List.mem_of_getElem? (i := 34) rfl))) (notFace_of_selects (args := #[]) (mvT hZ505 (hw _ (List.mem_of_getElem? (i := 36) rfl)))) (mvT hZ505 (hw _ (List.mem_of_getElem? (i := 36) rfl))) (mvT hZ505 (hw _ (List.mem_of_getElem? (i := 35) rfl))) (by decide) (backOf (W := 0) (rm_eq01 l Z a0 hw [] a b a505 b505 G h505 n0 _ (Nat.le_trans Z0 E505.1) (S0.ext E505) hG V506_) hZ505 (hw _ (List.mem_of_getElem? (i := 37) rfl)) (hw _ (List.mem_of_getElem? (i := 8) rfl)) (by decide) (by decide)) q506a q506c (g := (mkF m 3 #[.val (.ref a)] [(.ref a505), (.ref a)])) rfl (by rw [hml]; rfl) (Steps.refl _) (argsL := [(.ref a505)]) (rest := []) (lenOf pd_14 rfl) rfl (by show 2 * 0 + _ ≤ _; exact Nat.le_of_eq rfl) (hb hby d11m6_3) (fun _ _ => ⟨rfl, e505, Nat.le_of_ble_eq_true rfl, Nat.le_of_ble_eq_true rfl⟩)
  dsimp only [Pt.U, Pt.locs, Pt.cells, Pt.slots] at X506 l506 y506 z506 st506 hQ506
  rw [l506, y506, z506] at X506
  obtain ⟨rfl, rfl, e506⟩ := hQ506
  have X506 : Stand p l e _ (s.setVm T505.vm) m #[(.ref a)] below meth c T506 [] 2 8 := X506
  refine OGets.after st506 ?_
  refine OGets.step (fun _ => XS.ifNo X506.here hx rfl (hb hby d11m6_6) rfl ((if0 _ _).trans (teq (by decide : (0 : Int32) = (0 : Int32))).2)) ?_
  refine OGets.step (fun _ => XS.aloadN X506.here hx rfl (hb hby d11m6_9) rfl rfl) ?_
  obtain ⟨a508, T508, h508, k508, b508, kc508, X508, e508, E508, S508, hk508, hZ508, hown508, Ex508, Fc508, Fv508, Av508, la508, lb508, R508', -, ne508, st508⟩ := ldcCH (EL := EL) X506 hx hZ505 hown505 (hw _ (List.mem_of_getElem? (i := 44) rfl)) (own_wS hw) e506 S505 hk505 hEL hm97 R505.1 (vs := [(.int (46 : Int32)), (.int (46 : Int32))]) (z := (2 : Int32)) ⟨by decide +kernel, by decide +kernel⟩ (by decide) (by decide) (g := (mkF m 10 #[.val (.ref a)] [(.ref a)])) rfl (hb hby d11m6_10) (n := 8) (by decide +kernel) (by decide) (by decide) (by decide)
  have R508 : CHr Z EL s.vm h0 T508.vm h508 := R505.trans R508'
  have Vs508 : OView Z 0 h508 (((a508, Sum.inl ("java/lang/String", ns_String, [(.ref b508), (.int (0 : Int32))])) : Addr × OObj) :: ((b508, Sum.inr (.byte, [(.int (46 : Int32)), (.int (46 : Int32))])) : Addr × OObj) :: []) := own_str (lay_ns_String hw) (hw _ (List.mem_of_getElem? (i := 7) rfl)) Ex508 Fv508 Fc508 Av508 (by decide)
  have Vr508 : ORead Z h508 (((a508, Sum.inl ("java/lang/String", ns_String, [(.ref b508), (.int (0 : Int32))])) : Addr × OObj) :: ((b508, Sum.inr (.byte, [(.int (46 : Int32)), (.int (46 : Int32))])) : Addr × OObj) :: ((a, Sum.inl ("java/lang/String", ns_String, [(.ref b), (.int (0 : Int32))])) : Addr × OObj) :: ((b, Sum.inr (.byte, [])) : Addr × OObj) :: ((a505, Sum.inl ("java/lang/String", ns_String, [(.ref b505), (.int (0 : Int32))])) : Addr × OObj) :: ((b505, Sum.inr (.byte, [(.int (46 : Int32))])) : Addr × OObj) :: F) := ORead.app Vs508.read (V506_.ext E508)
  refine OGets.step st508 ?_
  have V509_ : ORead Z h508 (((a, Sum.inl ("java/lang/String", ns_String, [(.ref b), (.int (0 : Int32))])) : Addr × OObj) :: ((b, Sum.inr (.byte, [])) : Addr × OObj) :: ((a508, Sum.inl ("java/lang/String", ns_String, [(.ref b508), (.int (0 : Int32))])) : Addr × OObj) :: ((b508, Sum.inr (.byte, [(.int (46 : Int32)), (.int (46 : Int32))])) : Addr × OObj) :: ((a505, Sum.inl ("java/lang/String", ns_String, [(.ref b505), (.int (0 : Int32))])) : Addr × OObj) :: ((b505, Sum.inr (.byte, [(.int (46 : Int32))])) : Addr × OObj) :: F) := ((Vr508.bring 3 rfl).bring 3 rfl)
  obtain ⟨cq509, kq509, q509a, q509b, q509c⟩ := isOf hZ508 e508 (V509_.exa 0 rfl)
  obtain ⟨_, _, ⟨T509, L509, k509, n509⟩, -, X509, ⟨Lc509, hQ509, l509, y509, z509⟩, st509⟩ := X508.virtualBack hx (y := (⟨"java/lang/String", "equals", "(Ljava/lang/Object;)Z"⟩ : MethodName)) (z := (⟨"java/lang/String", "equals", "(Ljava/lang/Object;)Z"⟩ : MethodName)) hown508 (mvT hZ508 (hw _ (List.mem_of_getElem? (i := 33) rfl))) (mvT hZ508 (hw _ (List.mem_of_getElem? (i := 34) rfl))) (notFace_of_selects (args := #[]) (mvT hZ508 (hw _ (List.mem_of_getElem? (i := 36) rfl)))) (mvT hZ508 (hw _ (List.mem_of_getElem? (i := 36) rfl))) (mvT hZ508 (hw _ (List.mem_of_getElem? (i := 35) rfl))) (by decide) (backOf (W := 0) (rm_eq02 l Z a0 hw [] a b a508 b508 G h508 n0 _ (Nat.le_trans (Nat.le_trans Z0 E505.1) E508.1) ((S0.ext E505).ext E508) hG V509_) hZ508 (hw _ (List.mem_of_getElem? (i := 37) rfl)) (hw _ (List.mem_of_getElem? (i := 8) rfl)) (by decide) (by decide)) q509a q509c (g := (mkF m 12 #[.val (.ref a)] [(.ref a508), (.ref a)])) rfl (by rw [hml]; rfl) (Steps.refl _) (argsL := [(.ref a508)]) (rest := []) (lenOf pd_14 rfl) rfl (by show 2 * 0 + _ ≤ _; exact Nat.le_of_eq rfl) (hb hby d11m6_12) (fun _ _ => ⟨rfl, e508, Nat.le_of_ble_eq_true rfl, Nat.le_of_ble_eq_true rfl⟩)
  dsimp only [Pt.U, Pt.locs, Pt.cells, Pt.slots] at X509 l509 y509 z509 st509 hQ509
  rw [l509, y509, z509] at X509
  obtain ⟨rfl, rfl, e509⟩ := hQ509
  have X509 : Stand p l e _ (s.setVm T508.vm) m #[(.ref a)] below meth c T509 [] 4 20 := X509
  refine OGets.after st509 ?_
  refine OGets.step (fun _ => XS.ifYes X509.here hx rfl (pc0 := 15) (pc' := 22) rfl (hb hby d11m6_15) rfl ((if0 _ _).trans (teq (by decide : (0 : Int32) = (0 : Int32))).1) (by decide) (by decide)) ?_
  refine OGets.step (fun _ => XS.iconst X509.here hx rfl (hb hby d11m6_22)) ?_
  refine OGets.retNW X509 hx hlk (t := .boolean) Bd.returns (by simp) (hb hby d11m6_23) S508 (by rw [e509]; exact hk508) (by rw [hh, e509]; exact R508.trans (CHv.at X509 hZ508 hEL R508.1)) (Nat.le_of_ble_eq_true rfl) (Nat.le_of_ble_eq_true rfl) ?_
  refine ⟨congrArg (fun z => some (Value.int z)) (show _ = (0 : Int32) from by decide), rfl, ?_⟩
  rw [e509]
  exact (own_ext (own_ext (own_ext0 h0) E505) E508)
def f_id1 (y0 : Int32) : Int32 := (if (f_eq1 y0) = (0 : Int32) then (0 : Int32) else (1 : Int32))
theorem d11m6_18 : decode prog_11_method_6_code 18 = .ok (.iconst 1, 1) := by decide +kernel
theorem d11m6_19 : decode prog_11_method_6_code 19 = .ok (.goto 4, 3) := by decide +kernel
theorem ef_id1 (m : MethodId) (x0 : Addr) : entryFrame m #[(.ref x0)] 1 = mkF m 0 #[.val (.ref x0)] [] := by first | (simp [entryFrame, mkF, argsToLocals, Value.category]; done) | rfl
def Q_id1 (Z : State) (a : Addr) (b : Addr) (G : Int32) (y0 : Int32) (EL : List (String × Nat)) (h0 : Heap) (n0 : Nat) (F : List (Addr × OObj)) (v : Option Value) (h : Heap) (L : List Loc) : Prop := v = some (.int (f_id1 y0)) ∧ L = [] ∧ Ext h0 h
set_option maxRecDepth 65536 in
set_option maxHeartbeats 40000000 in
theorem rm_id1 (l : Launch) (Z : State) (a0 : Array Value) (hw : ∀ d ∈ tables_1, d.before a0 Z = true) (ws : List Jvm.Cond) (a : Addr) (b : Addr) (G : Int32) (y0 : Int32) (EL : List (String × Nat)) (h0 : Heap) (n0 : Nat) (F : List (Addr × OObj)) (Z0 : n0 ≤ h0.size) (S0 : Sta Z h0 "java/lang/String" "COMPACT_STRINGS" "Z" (.int G)) (hG : ¬ G = (0 : Int32)) (hm91 : (("com/example/hermod/hermod/PercentEncoding", 91) : String × Nat) ∈ EL) (hm97 : (("com/example/hermod/hermod/PercentEncoding", 97) : String × Nat) ∈ EL) (hEL : EW Z a0 EL) (V0 : ORead Z h0 (((a, Sum.inl ("java/lang/String", ns_String, [(.ref b), (.int (0 : Int32))])) : Addr × OObj) :: ((b, Sum.inr (.byte, [(.int y0)])) : Addr × OObj) :: F)) :
    MetFree l (⟨"com/example/hermod/hermod/PercentEncoding", "isDotSegment", "(Ljava/lang/String;)Z"⟩ : MethodName) (head1 (Jvm.Cond.code (⟨"com/example/hermod/hermod/PercentEncoding", "isDotSegment", "(Ljava/lang/String;)Z"⟩ : MethodName) prog_11_method_6_code 1 (some .boolean) :: ws) ({ frames := 2, cells := 4, slots := 20, locals := 28 } : Room)) (fun a_ U => a_ = #[(.ref a)] ∧ Z.Warmed39 U.vm ∧ U.heap = h0 ∧ CHv Z EL U.vm h0) (fun _ _ _ _ _ => True) (fun _ U o U' => ∃ v L, o = .returned v ∧ Q_id1 Z a b G y0 EL h0 n0 F v U'.heap L ∧ CHr Z EL U.vm U.heap U'.vm U'.heap ∧ ReturnedEndW U o U' L ({ frames := 2, cells := 4, slots := 20, locals := 28 } : Room).cells ({ frames := 2, cells := 4, slots := 20, locals := 28 } : Room).slots) := by
  refine MetFree.of_bodySF (plainFor_of_name pn_13) hisR ?_
  intro p e s m args below meth c s₁ Bd hml0 hP hK
  obtain ⟨rfl, hZ, hh, hCH⟩ := hP
  have hx := Bd.exec
  have hby := Bd.bytes
  have hlk : meth.locks = false := Bd.notSynchronized
  have hml : c.maxLocals = 1 := hml0
  have hown : s.vm.findClass "com/example/hermod/hermod/PercentEncoding" = some m.cls := findClass_of_methodNamed Bd.named
  have hnm := (name_of_methodNamed Bd.named Bd.method).1
  have X0 : Stand p l e ({ frames := 2, cells := 4, slots := 20, locals := 28 } : Room) s m #[(.ref a)] below meth c s₁ [] 0 0 := Stand.of_body Bd
  have e0 : s₁.heap = h0 := by rw [← hh, Bd.state]; rfl
  have N0 := Fr.nil n0
  have hv0 : f_id1 y0 = (if (f_eq1 y0) = (0 : Int32) then (0 : Int32) else (1 : Int32)) := rfl
  show OGets p e below (OLeavesW s Z EL (Q_id1 Z a b G y0 EL h0 n0 F ) ({ frames := 2, cells := 4, slots := 20, locals := 28 } : Room).cells ({ frames := 2, cells := 4, slots := 20, locals := 28 } : Room).slots) _
  refine OGets.enter (ef_id1 m a) ?_
  show OGets p e below _ (s₁.setTop (mkF m 0 #[.val (.ref a)] []))
  refine OGets.step (fun _ => XS.aloadN X0.here hx rfl (hb hby d11m6_0) rfl rfl) ?_
  obtain ⟨a511, T511, h511, k511, b511, kc511, X511, e511, E511, S511, hk511, hZ511, hown511, Ex511, Fc511, Fv511, Av511, la511, lb511, R511', -, ne511, st511⟩ := ldcCH (EL := EL) (show Stand p l e _ (s.setVm s.vm) m #[(.ref a)] below meth c s₁ _ _ _ from X0) hx hZ hown (hw _ (List.mem_of_getElem? (i := 32) rfl)) (own_wS hw) e0 (State.WarmedH.since (State.WarmedH.refl s) 0) (Nat.zero_le _) hEL hm91 hCH (vs := [(.int (46 : Int32))]) (z := (1 : Int32)) ⟨by decide +kernel, by decide +kernel⟩ (by decide) (by decide) (g := (mkF m 1 #[.val (.ref a)] [(.ref a)])) rfl (hb hby d11m6_1) (n := 4) (by decide +kernel) (by decide) (by decide) (by decide)
  have R511 : CHr Z EL s.vm h0 T511.vm h511 := R511'
  have Vs511 : OView Z 0 h511 (((a511, Sum.inl ("java/lang/String", ns_String, [(.ref b511), (.int (0 : Int32))])) : Addr × OObj) :: ((b511, Sum.inr (.byte, [(.int (46 : Int32))])) : Addr × OObj) :: []) := own_str (lay_ns_String hw) (hw _ (List.mem_of_getElem? (i := 7) rfl)) Ex511 Fv511 Fc511 Av511 (by decide)
  have Vr511 : ORead Z h511 (((a511, Sum.inl ("java/lang/String", ns_String, [(.ref b511), (.int (0 : Int32))])) : Addr × OObj) :: ((b511, Sum.inr (.byte, [(.int (46 : Int32))])) : Addr × OObj) :: ((a, Sum.inl ("java/lang/String", ns_String, [(.ref b), (.int (0 : Int32))])) : Addr × OObj) :: ((b, Sum.inr (.byte, [(.int y0)])) : Addr × OObj) :: F) := ORead.app Vs511.read (V0.ext E511)
  refine OGets.step st511 ?_
  have V512_ : ORead Z h511 (((a, Sum.inl ("java/lang/String", ns_String, [(.ref b), (.int (0 : Int32))])) : Addr × OObj) :: ((b, Sum.inr (.byte, [(.int y0)])) : Addr × OObj) :: ((a511, Sum.inl ("java/lang/String", ns_String, [(.ref b511), (.int (0 : Int32))])) : Addr × OObj) :: ((b511, Sum.inr (.byte, [(.int (46 : Int32))])) : Addr × OObj) :: F) := ((Vr511.bring 3 rfl).bring 3 rfl)
  obtain ⟨cq512, kq512, q512a, q512b, q512c⟩ := isOf hZ511 e511 (V512_.exa 0 rfl)
  obtain ⟨_, _, ⟨T512, L512, k512, n512⟩, -, X512, ⟨Lc512, hQ512, l512, y512, z512⟩, st512⟩ := X511.virtualBack hx (y := (⟨"java/lang/String", "equals", "(Ljava/lang/Object;)Z"⟩ : MethodName)) (z := (⟨"java/lang/String", "equals", "(Ljava/lang/Object;)Z"⟩ : MethodName)) hown511 (mvT hZ511 (hw _ (List.mem_of_getElem? (i := 33) rfl))) (mvT hZ511 (hw _ (List.mem_of_getElem? (i := 34) rfl))) (notFace_of_selects (args := #[]) (mvT hZ511 (hw _ (List.mem_of_getElem? (i := 36) rfl)))) (mvT hZ511 (hw _ (List.mem_of_getElem? (i := 36) rfl))) (mvT hZ511 (hw _ (List.mem_of_getElem? (i := 35) rfl))) (by decide) (backOf (W := 0) (rm_eq11 l Z a0 hw [] a b a511 b511 G y0 h511 n0 _ (Nat.le_trans Z0 E511.1) (S0.ext E511) hG V512_) hZ511 (hw _ (List.mem_of_getElem? (i := 37) rfl)) (hw _ (List.mem_of_getElem? (i := 8) rfl)) (by decide) (by decide)) q512a q512c (g := (mkF m 3 #[.val (.ref a)] [(.ref a511), (.ref a)])) rfl (by rw [hml]; rfl) (Steps.refl _) (argsL := [(.ref a511)]) (rest := []) (lenOf pd_14 rfl) rfl (by show 2 * 0 + _ ≤ _; exact Nat.le_of_eq rfl) (hb hby d11m6_3) (fun _ _ => ⟨rfl, e511, Nat.le_of_ble_eq_true rfl, Nat.le_of_ble_eq_true rfl⟩)
  dsimp only [Pt.U, Pt.locs, Pt.cells, Pt.slots] at X512 l512 y512 z512 st512 hQ512
  rw [l512, y512, z512] at X512
  obtain ⟨rfl, rfl, e512⟩ := hQ512
  have X512 : Stand p l e _ (s.setVm T511.vm) m #[(.ref a)] below meth c T512 [] 2 8 := X512
  refine OGets.after st512 ?_
  by_cases hc6_513 : (f_eq1 y0) = (0 : Int32)
  · refine OGets.step (fun _ => XS.ifNo X512.here hx rfl (hb hby d11m6_6) rfl ((if0 _ _).trans (teq hc6_513).2)) ?_
    have hv514 := hv0.trans (if_pos hc6_513)
    show OGets p e below _ (T512.setTop (mkF m 9 #[.val (.ref a)] []))
    refine OGets.step (fun _ => XS.aloadN X512.here hx rfl (hb hby d11m6_9) rfl rfl) ?_
    obtain ⟨a515, T515, h515, k515, b515, kc515, X515, e515, E515, S515, hk515, hZ515, hown515, Ex515, Fc515, Fv515, Av515, la515, lb515, R515', -, ne515, st515⟩ := ldcCH (EL := EL) X512 hx hZ511 hown511 (hw _ (List.mem_of_getElem? (i := 44) rfl)) (own_wS hw) e512 S511 hk511 hEL hm97 R511.1 (vs := [(.int (46 : Int32)), (.int (46 : Int32))]) (z := (2 : Int32)) ⟨by decide +kernel, by decide +kernel⟩ (by decide) (by decide) (g := (mkF m 10 #[.val (.ref a)] [(.ref a)])) rfl (hb hby d11m6_10) (n := 8) (by decide +kernel) (by decide) (by decide) (by decide)
    have R515 : CHr Z EL s.vm h0 T515.vm h515 := R511.trans R515'
    have Vs515 : OView Z 0 h515 (((a515, Sum.inl ("java/lang/String", ns_String, [(.ref b515), (.int (0 : Int32))])) : Addr × OObj) :: ((b515, Sum.inr (.byte, [(.int (46 : Int32)), (.int (46 : Int32))])) : Addr × OObj) :: []) := own_str (lay_ns_String hw) (hw _ (List.mem_of_getElem? (i := 7) rfl)) Ex515 Fv515 Fc515 Av515 (by decide)
    have Vr515 : ORead Z h515 (((a515, Sum.inl ("java/lang/String", ns_String, [(.ref b515), (.int (0 : Int32))])) : Addr × OObj) :: ((b515, Sum.inr (.byte, [(.int (46 : Int32)), (.int (46 : Int32))])) : Addr × OObj) :: ((a, Sum.inl ("java/lang/String", ns_String, [(.ref b), (.int (0 : Int32))])) : Addr × OObj) :: ((b, Sum.inr (.byte, [(.int y0)])) : Addr × OObj) :: ((a511, Sum.inl ("java/lang/String", ns_String, [(.ref b511), (.int (0 : Int32))])) : Addr × OObj) :: ((b511, Sum.inr (.byte, [(.int (46 : Int32))])) : Addr × OObj) :: F) := ORead.app Vs515.read (V512_.ext E515)
    refine OGets.step st515 ?_
    have V516_ : ORead Z h515 (((a, Sum.inl ("java/lang/String", ns_String, [(.ref b), (.int (0 : Int32))])) : Addr × OObj) :: ((b, Sum.inr (.byte, [(.int y0)])) : Addr × OObj) :: ((a515, Sum.inl ("java/lang/String", ns_String, [(.ref b515), (.int (0 : Int32))])) : Addr × OObj) :: ((b515, Sum.inr (.byte, [(.int (46 : Int32)), (.int (46 : Int32))])) : Addr × OObj) :: ((a511, Sum.inl ("java/lang/String", ns_String, [(.ref b511), (.int (0 : Int32))])) : Addr × OObj) :: ((b511, Sum.inr (.byte, [(.int (46 : Int32))])) : Addr × OObj) :: F) := ((Vr515.bring 3 rfl).bring 3 rfl)
    obtain ⟨cq516, kq516, q516a, q516b, q516c⟩ := isOf hZ515 e515 (V516_.exa 0 rfl)
    obtain ⟨_, _, ⟨T516, L516, k516, n516⟩, -, X516, ⟨Lc516, hQ516, l516, y516, z516⟩, st516⟩ := X515.virtualBack hx (y := (⟨"java/lang/String", "equals", "(Ljava/lang/Object;)Z"⟩ : MethodName)) (z := (⟨"java/lang/String", "equals", "(Ljava/lang/Object;)Z"⟩ : MethodName)) hown515 (mvT hZ515 (hw _ (List.mem_of_getElem? (i := 33) rfl))) (mvT hZ515 (hw _ (List.mem_of_getElem? (i := 34) rfl))) (notFace_of_selects (args := #[]) (mvT hZ515 (hw _ (List.mem_of_getElem? (i := 36) rfl)))) (mvT hZ515 (hw _ (List.mem_of_getElem? (i := 36) rfl))) (mvT hZ515 (hw _ (List.mem_of_getElem? (i := 35) rfl))) (by decide) (backOf (W := 0) (rm_eq12 l Z a0 hw [] a b a515 b515 G y0 h515 n0 _ (Nat.le_trans (Nat.le_trans Z0 E511.1) E515.1) ((S0.ext E511).ext E515) hG V516_) hZ515 (hw _ (List.mem_of_getElem? (i := 37) rfl)) (hw _ (List.mem_of_getElem? (i := 8) rfl)) (by decide) (by decide)) q516a q516c (g := (mkF m 12 #[.val (.ref a)] [(.ref a515), (.ref a)])) rfl (by rw [hml]; rfl) (Steps.refl _) (argsL := [(.ref a515)]) (rest := []) (lenOf pd_14 rfl) rfl (by show 2 * 0 + _ ≤ _; exact Nat.le_of_eq rfl) (hb hby d11m6_12) (fun _ _ => ⟨rfl, e515, Nat.le_of_ble_eq_true rfl, Nat.le_of_ble_eq_true rfl⟩)
    dsimp only [Pt.U, Pt.locs, Pt.cells, Pt.slots] at X516 l516 y516 z516 st516 hQ516
    rw [l516, y516, z516] at X516
    obtain ⟨rfl, rfl, e516⟩ := hQ516
    have X516 : Stand p l e _ (s.setVm T515.vm) m #[(.ref a)] below meth c T516 [] 4 20 := X516
    refine OGets.after st516 ?_
    refine OGets.step (fun _ => XS.ifYes X516.here hx rfl (pc0 := 15) (pc' := 22) rfl (hb hby d11m6_15) rfl ((if0 _ _).trans (teq (by decide : (0 : Int32) = (0 : Int32))).1) (by decide) (by decide)) ?_
    refine OGets.step (fun _ => XS.iconst X516.here hx rfl (hb hby d11m6_22)) ?_
    refine OGets.retNW X516 hx hlk (t := .boolean) Bd.returns (by simp) (hb hby d11m6_23) S515 (by rw [e516]; exact hk515) (by rw [hh, e516]; exact R515.trans (CHv.at X516 hZ515 hEL R515.1)) (Nat.le_of_ble_eq_true rfl) (Nat.le_of_ble_eq_true rfl) ?_
    refine ⟨congrArg (fun z => some (Value.int z)) hv514.symm, rfl, ?_⟩
    rw [e516]
    exact (own_ext (own_ext (own_ext0 h0) E511) E515)
  · refine OGets.step (fun _ => XS.ifYes X512.here hx rfl (pc0 := 6) (pc' := 18) rfl (hb hby d11m6_6) rfl ((if0 _ _).trans (feq hc6_513).2) (by decide) (by decide)) ?_
    have hv518 := hv0.trans (if_neg hc6_513)
    show OGets p e below _ (T512.setTop (mkF m 18 #[.val (.ref a)] []))
    refine OGets.step (fun _ => XS.iconst X512.here hx rfl (hb hby d11m6_18)) ?_
    refine OGets.step (fun _ => XS.goto X512.here hx rfl (pc0 := 19) (pc' := 23) rfl (hb hby d11m6_19) (by decide) (by decide)) ?_
    refine OGets.retNW X512 hx hlk (t := .boolean) Bd.returns (by simp) (hb hby d11m6_23) S511 (by rw [e512]; exact hk511) (by rw [hh, e512]; exact R511.trans (CHv.at X512 hZ511 hEL R511.1)) (Nat.le_of_ble_eq_true rfl) (Nat.le_of_ble_eq_true rfl) ?_
    refine ⟨congrArg (fun z => some (Value.int z)) hv518.symm, rfl, ?_⟩
    rw [e512]
    exact (own_ext (own_ext0 h0) E511)
def f_id2 (y0 : Int32) (y1 : Int32) : Int32 := (if (f_eq2 y0 y1) = (0 : Int32) then (0 : Int32) else (1 : Int32))
theorem ef_id2 (m : MethodId) (x0 : Addr) : entryFrame m #[(.ref x0)] 1 = mkF m 0 #[.val (.ref x0)] [] := by first | (simp [entryFrame, mkF, argsToLocals, Value.category]; done) | rfl
def Q_id2 (Z : State) (a : Addr) (b : Addr) (G : Int32) (y0 : Int32) (y1 : Int32) (EL : List (String × Nat)) (h0 : Heap) (n0 : Nat) (F : List (Addr × OObj)) (v : Option Value) (h : Heap) (L : List Loc) : Prop := v = some (.int (f_id2 y0 y1)) ∧ L = [] ∧ Ext h0 h
set_option maxRecDepth 65536 in
set_option maxHeartbeats 40000000 in
theorem rm_id2 (l : Launch) (Z : State) (a0 : Array Value) (hw : ∀ d ∈ tables_1, d.before a0 Z = true) (ws : List Jvm.Cond) (a : Addr) (b : Addr) (G : Int32) (y0 : Int32) (y1 : Int32) (EL : List (String × Nat)) (h0 : Heap) (n0 : Nat) (F : List (Addr × OObj)) (Z0 : n0 ≤ h0.size) (S0 : Sta Z h0 "java/lang/String" "COMPACT_STRINGS" "Z" (.int G)) (hG : ¬ G = (0 : Int32)) (hm91 : (("com/example/hermod/hermod/PercentEncoding", 91) : String × Nat) ∈ EL) (hm97 : (("com/example/hermod/hermod/PercentEncoding", 97) : String × Nat) ∈ EL) (hEL : EW Z a0 EL) (V0 : ORead Z h0 (((a, Sum.inl ("java/lang/String", ns_String, [(.ref b), (.int (0 : Int32))])) : Addr × OObj) :: ((b, Sum.inr (.byte, [(.int y0), (.int y1)])) : Addr × OObj) :: F)) :
    MetFree l (⟨"com/example/hermod/hermod/PercentEncoding", "isDotSegment", "(Ljava/lang/String;)Z"⟩ : MethodName) (head1 (Jvm.Cond.code (⟨"com/example/hermod/hermod/PercentEncoding", "isDotSegment", "(Ljava/lang/String;)Z"⟩ : MethodName) prog_11_method_6_code 1 (some .boolean) :: ws) ({ frames := 2, cells := 4, slots := 20, locals := 28 } : Room)) (fun a_ U => a_ = #[(.ref a)] ∧ Z.Warmed39 U.vm ∧ U.heap = h0 ∧ CHv Z EL U.vm h0) (fun _ _ _ _ _ => True) (fun _ U o U' => ∃ v L, o = .returned v ∧ Q_id2 Z a b G y0 y1 EL h0 n0 F v U'.heap L ∧ CHr Z EL U.vm U.heap U'.vm U'.heap ∧ ReturnedEndW U o U' L ({ frames := 2, cells := 4, slots := 20, locals := 28 } : Room).cells ({ frames := 2, cells := 4, slots := 20, locals := 28 } : Room).slots) := by
  refine MetFree.of_bodySF (plainFor_of_name pn_13) hisR ?_
  intro p e s m args below meth c s₁ Bd hml0 hP hK
  obtain ⟨rfl, hZ, hh, hCH⟩ := hP
  have hx := Bd.exec
  have hby := Bd.bytes
  have hlk : meth.locks = false := Bd.notSynchronized
  have hml : c.maxLocals = 1 := hml0
  have hown : s.vm.findClass "com/example/hermod/hermod/PercentEncoding" = some m.cls := findClass_of_methodNamed Bd.named
  have hnm := (name_of_methodNamed Bd.named Bd.method).1
  have X0 : Stand p l e ({ frames := 2, cells := 4, slots := 20, locals := 28 } : Room) s m #[(.ref a)] below meth c s₁ [] 0 0 := Stand.of_body Bd
  have e0 : s₁.heap = h0 := by rw [← hh, Bd.state]; rfl
  have N0 := Fr.nil n0
  have hv0 : f_id2 y0 y1 = (if (f_eq2 y0 y1) = (0 : Int32) then (0 : Int32) else (1 : Int32)) := rfl
  show OGets p e below (OLeavesW s Z EL (Q_id2 Z a b G y0 y1 EL h0 n0 F ) ({ frames := 2, cells := 4, slots := 20, locals := 28 } : Room).cells ({ frames := 2, cells := 4, slots := 20, locals := 28 } : Room).slots) _
  refine OGets.enter (ef_id2 m a) ?_
  show OGets p e below _ (s₁.setTop (mkF m 0 #[.val (.ref a)] []))
  refine OGets.step (fun _ => XS.aloadN X0.here hx rfl (hb hby d11m6_0) rfl rfl) ?_
  obtain ⟨a519, T519, h519, k519, b519, kc519, X519, e519, E519, S519, hk519, hZ519, hown519, Ex519, Fc519, Fv519, Av519, la519, lb519, R519', -, ne519, st519⟩ := ldcCH (EL := EL) (show Stand p l e _ (s.setVm s.vm) m #[(.ref a)] below meth c s₁ _ _ _ from X0) hx hZ hown (hw _ (List.mem_of_getElem? (i := 32) rfl)) (own_wS hw) e0 (State.WarmedH.since (State.WarmedH.refl s) 0) (Nat.zero_le _) hEL hm91 hCH (vs := [(.int (46 : Int32))]) (z := (1 : Int32)) ⟨by decide +kernel, by decide +kernel⟩ (by decide) (by decide) (g := (mkF m 1 #[.val (.ref a)] [(.ref a)])) rfl (hb hby d11m6_1) (n := 4) (by decide +kernel) (by decide) (by decide) (by decide)
  have R519 : CHr Z EL s.vm h0 T519.vm h519 := R519'
  have Vs519 : OView Z 0 h519 (((a519, Sum.inl ("java/lang/String", ns_String, [(.ref b519), (.int (0 : Int32))])) : Addr × OObj) :: ((b519, Sum.inr (.byte, [(.int (46 : Int32))])) : Addr × OObj) :: []) := own_str (lay_ns_String hw) (hw _ (List.mem_of_getElem? (i := 7) rfl)) Ex519 Fv519 Fc519 Av519 (by decide)
  have Vr519 : ORead Z h519 (((a519, Sum.inl ("java/lang/String", ns_String, [(.ref b519), (.int (0 : Int32))])) : Addr × OObj) :: ((b519, Sum.inr (.byte, [(.int (46 : Int32))])) : Addr × OObj) :: ((a, Sum.inl ("java/lang/String", ns_String, [(.ref b), (.int (0 : Int32))])) : Addr × OObj) :: ((b, Sum.inr (.byte, [(.int y0), (.int y1)])) : Addr × OObj) :: F) := ORead.app Vs519.read (V0.ext E519)
  refine OGets.step st519 ?_
  have V520_ : ORead Z h519 (((a, Sum.inl ("java/lang/String", ns_String, [(.ref b), (.int (0 : Int32))])) : Addr × OObj) :: ((b, Sum.inr (.byte, [(.int y0), (.int y1)])) : Addr × OObj) :: ((a519, Sum.inl ("java/lang/String", ns_String, [(.ref b519), (.int (0 : Int32))])) : Addr × OObj) :: ((b519, Sum.inr (.byte, [(.int (46 : Int32))])) : Addr × OObj) :: F) := ((Vr519.bring 3 rfl).bring 3 rfl)
  obtain ⟨cq520, kq520, q520a, q520b, q520c⟩ := isOf hZ519 e519 (V520_.exa 0 rfl)
  obtain ⟨_, _, ⟨T520, L520, k520, n520⟩, -, X520, ⟨Lc520, hQ520, l520, y520, z520⟩, st520⟩ := X519.virtualBack hx (y := (⟨"java/lang/String", "equals", "(Ljava/lang/Object;)Z"⟩ : MethodName)) (z := (⟨"java/lang/String", "equals", "(Ljava/lang/Object;)Z"⟩ : MethodName)) hown519 (mvT hZ519 (hw _ (List.mem_of_getElem? (i := 33) rfl))) (mvT hZ519 (hw _ (List.mem_of_getElem? (i := 34) rfl))) (notFace_of_selects (args := #[]) (mvT hZ519 (hw _ (List.mem_of_getElem? (i := 36) rfl)))) (mvT hZ519 (hw _ (List.mem_of_getElem? (i := 36) rfl))) (mvT hZ519 (hw _ (List.mem_of_getElem? (i := 35) rfl))) (by decide) (backOf (W := 0) (rm_eq21 l Z a0 hw [] a b a519 b519 G y0 y1 h519 n0 _ (Nat.le_trans Z0 E519.1) (S0.ext E519) hG V520_) hZ519 (hw _ (List.mem_of_getElem? (i := 37) rfl)) (hw _ (List.mem_of_getElem? (i := 8) rfl)) (by decide) (by decide)) q520a q520c (g := (mkF m 3 #[.val (.ref a)] [(.ref a519), (.ref a)])) rfl (by rw [hml]; rfl) (Steps.refl _) (argsL := [(.ref a519)]) (rest := []) (lenOf pd_14 rfl) rfl (by show 2 * 0 + _ ≤ _; exact Nat.le_of_eq rfl) (hb hby d11m6_3) (fun _ _ => ⟨rfl, e519, Nat.le_of_ble_eq_true rfl, Nat.le_of_ble_eq_true rfl⟩)
  dsimp only [Pt.U, Pt.locs, Pt.cells, Pt.slots] at X520 l520 y520 z520 st520 hQ520
  rw [l520, y520, z520] at X520
  obtain ⟨rfl, rfl, e520⟩ := hQ520
  have X520 : Stand p l e _ (s.setVm T519.vm) m #[(.ref a)] below meth c T520 [] 2 8 := X520
  refine OGets.after st520 ?_
  refine OGets.step (fun _ => XS.ifNo X520.here hx rfl (hb hby d11m6_6) rfl ((if0 _ _).trans (teq (by decide : (0 : Int32) = (0 : Int32))).2)) ?_
  refine OGets.step (fun _ => XS.aloadN X520.here hx rfl (hb hby d11m6_9) rfl rfl) ?_
  obtain ⟨a522, T522, h522, k522, b522, kc522, X522, e522, E522, S522, hk522, hZ522, hown522, Ex522, Fc522, Fv522, Av522, la522, lb522, R522', -, ne522, st522⟩ := ldcCH (EL := EL) X520 hx hZ519 hown519 (hw _ (List.mem_of_getElem? (i := 44) rfl)) (own_wS hw) e520 S519 hk519 hEL hm97 R519.1 (vs := [(.int (46 : Int32)), (.int (46 : Int32))]) (z := (2 : Int32)) ⟨by decide +kernel, by decide +kernel⟩ (by decide) (by decide) (g := (mkF m 10 #[.val (.ref a)] [(.ref a)])) rfl (hb hby d11m6_10) (n := 8) (by decide +kernel) (by decide) (by decide) (by decide)
  have R522 : CHr Z EL s.vm h0 T522.vm h522 := R519.trans R522'
  have Vs522 : OView Z 0 h522 (((a522, Sum.inl ("java/lang/String", ns_String, [(.ref b522), (.int (0 : Int32))])) : Addr × OObj) :: ((b522, Sum.inr (.byte, [(.int (46 : Int32)), (.int (46 : Int32))])) : Addr × OObj) :: []) := own_str (lay_ns_String hw) (hw _ (List.mem_of_getElem? (i := 7) rfl)) Ex522 Fv522 Fc522 Av522 (by decide)
  have Vr522 : ORead Z h522 (((a522, Sum.inl ("java/lang/String", ns_String, [(.ref b522), (.int (0 : Int32))])) : Addr × OObj) :: ((b522, Sum.inr (.byte, [(.int (46 : Int32)), (.int (46 : Int32))])) : Addr × OObj) :: ((a, Sum.inl ("java/lang/String", ns_String, [(.ref b), (.int (0 : Int32))])) : Addr × OObj) :: ((b, Sum.inr (.byte, [(.int y0), (.int y1)])) : Addr × OObj) :: ((a519, Sum.inl ("java/lang/String", ns_String, [(.ref b519), (.int (0 : Int32))])) : Addr × OObj) :: ((b519, Sum.inr (.byte, [(.int (46 : Int32))])) : Addr × OObj) :: F) := ORead.app Vs522.read (V520_.ext E522)
  refine OGets.step st522 ?_
  have V523_ : ORead Z h522 (((a, Sum.inl ("java/lang/String", ns_String, [(.ref b), (.int (0 : Int32))])) : Addr × OObj) :: ((b, Sum.inr (.byte, [(.int y0), (.int y1)])) : Addr × OObj) :: ((a522, Sum.inl ("java/lang/String", ns_String, [(.ref b522), (.int (0 : Int32))])) : Addr × OObj) :: ((b522, Sum.inr (.byte, [(.int (46 : Int32)), (.int (46 : Int32))])) : Addr × OObj) :: ((a519, Sum.inl ("java/lang/String", ns_String, [(.ref b519), (.int (0 : Int32))])) : Addr × OObj) :: ((b519, Sum.inr (.byte, [(.int (46 : Int32))])) : Addr × OObj) :: F) := ((Vr522.bring 3 rfl).bring 3 rfl)
  obtain ⟨cq523, kq523, q523a, q523b, q523c⟩ := isOf hZ522 e522 (V523_.exa 0 rfl)
  obtain ⟨_, _, ⟨T523, L523, k523, n523⟩, -, X523, ⟨Lc523, hQ523, l523, y523, z523⟩, st523⟩ := X522.virtualBack hx (y := (⟨"java/lang/String", "equals", "(Ljava/lang/Object;)Z"⟩ : MethodName)) (z := (⟨"java/lang/String", "equals", "(Ljava/lang/Object;)Z"⟩ : MethodName)) hown522 (mvT hZ522 (hw _ (List.mem_of_getElem? (i := 33) rfl))) (mvT hZ522 (hw _ (List.mem_of_getElem? (i := 34) rfl))) (notFace_of_selects (args := #[]) (mvT hZ522 (hw _ (List.mem_of_getElem? (i := 36) rfl)))) (mvT hZ522 (hw _ (List.mem_of_getElem? (i := 36) rfl))) (mvT hZ522 (hw _ (List.mem_of_getElem? (i := 35) rfl))) (by decide) (backOf (W := 0) (rm_eq22 l Z a0 hw [] a b a522 b522 G y0 y1 h522 n0 _ (Nat.le_trans (Nat.le_trans Z0 E519.1) E522.1) ((S0.ext E519).ext E522) hG V523_) hZ522 (hw _ (List.mem_of_getElem? (i := 37) rfl)) (hw _ (List.mem_of_getElem? (i := 8) rfl)) (by decide) (by decide)) q523a q523c (g := (mkF m 12 #[.val (.ref a)] [(.ref a522), (.ref a)])) rfl (by rw [hml]; rfl) (Steps.refl _) (argsL := [(.ref a522)]) (rest := []) (lenOf pd_14 rfl) rfl (by show 2 * 0 + _ ≤ _; exact Nat.le_of_eq rfl) (hb hby d11m6_12) (fun _ _ => ⟨rfl, e522, Nat.le_of_ble_eq_true rfl, Nat.le_of_ble_eq_true rfl⟩)
  dsimp only [Pt.U, Pt.locs, Pt.cells, Pt.slots] at X523 l523 y523 z523 st523 hQ523
  rw [l523, y523, z523] at X523
  obtain ⟨rfl, rfl, e523⟩ := hQ523
  have X523 : Stand p l e _ (s.setVm T522.vm) m #[(.ref a)] below meth c T523 [] 4 20 := X523
  refine OGets.after st523 ?_
  by_cases hc15_524 : (f_eq2 y0 y1) = (0 : Int32)
  · refine OGets.step (fun _ => XS.ifYes X523.here hx rfl (pc0 := 15) (pc' := 22) rfl (hb hby d11m6_15) rfl ((if0 _ _).trans (teq hc15_524).1) (by decide) (by decide)) ?_
    have hv525 := hv0.trans (if_pos hc15_524)
    show OGets p e below _ (T523.setTop (mkF m 22 #[.val (.ref a)] []))
    refine OGets.step (fun _ => XS.iconst X523.here hx rfl (hb hby d11m6_22)) ?_
    refine OGets.retNW X523 hx hlk (t := .boolean) Bd.returns (by simp) (hb hby d11m6_23) S522 (by rw [e523]; exact hk522) (by rw [hh, e523]; exact R522.trans (CHv.at X523 hZ522 hEL R522.1)) (Nat.le_of_ble_eq_true rfl) (Nat.le_of_ble_eq_true rfl) ?_
    refine ⟨congrArg (fun z => some (Value.int z)) hv525.symm, rfl, ?_⟩
    rw [e523]
    exact (own_ext (own_ext (own_ext0 h0) E519) E522)
  · refine OGets.step (fun _ => XS.ifNo X523.here hx rfl (hb hby d11m6_15) rfl ((if0 _ _).trans (feq hc15_524).1)) ?_
    have hv526 := hv0.trans (if_neg hc15_524)
    show OGets p e below _ (T523.setTop (mkF m 18 #[.val (.ref a)] []))
    refine OGets.step (fun _ => XS.iconst X523.here hx rfl (hb hby d11m6_18)) ?_
    refine OGets.step (fun _ => XS.goto X523.here hx rfl (pc0 := 19) (pc' := 23) rfl (hb hby d11m6_19) (by decide) (by decide)) ?_
    refine OGets.retNW X523 hx hlk (t := .boolean) Bd.returns (by simp) (hb hby d11m6_23) S522 (by rw [e523]; exact hk522) (by rw [hh, e523]; exact R522.trans (CHv.at X523 hZ522 hEL R522.1)) (Nat.le_of_ble_eq_true rfl) (Nat.le_of_ble_eq_true rfl) ?_
    refine ⟨congrArg (fun z => some (Value.int z)) hv526.symm, rfl, ?_⟩
    rw [e523]
    exact (own_ext (own_ext (own_ext0 h0) E519) E522)
theorem ef_id3 (m : MethodId) (x0 : Addr) : entryFrame m #[(.ref x0)] 1 = mkF m 0 #[.val (.ref x0)] [] := by first | (simp [entryFrame, mkF, argsToLocals, Value.category]; done) | rfl
def Q_id3 (Z : State) (a : Addr) (b : Addr) (G : Int32) (y0 : Int32) (y1 : Int32) (y2 : Int32) (EL : List (String × Nat)) (h0 : Heap) (n0 : Nat) (F : List (Addr × OObj)) (v : Option Value) (h : Heap) (L : List Loc) : Prop := v = some (.int (0 : Int32)) ∧ L = [] ∧ Ext h0 h
set_option maxRecDepth 65536 in
set_option maxHeartbeats 40000000 in
theorem rm_id3 (l : Launch) (Z : State) (a0 : Array Value) (hw : ∀ d ∈ tables_1, d.before a0 Z = true) (ws : List Jvm.Cond) (a : Addr) (b : Addr) (G : Int32) (y0 : Int32) (y1 : Int32) (y2 : Int32) (EL : List (String × Nat)) (h0 : Heap) (n0 : Nat) (F : List (Addr × OObj)) (Z0 : n0 ≤ h0.size) (S0 : Sta Z h0 "java/lang/String" "COMPACT_STRINGS" "Z" (.int G)) (hG : ¬ G = (0 : Int32)) (hm91 : (("com/example/hermod/hermod/PercentEncoding", 91) : String × Nat) ∈ EL) (hm97 : (("com/example/hermod/hermod/PercentEncoding", 97) : String × Nat) ∈ EL) (hEL : EW Z a0 EL) (V0 : ORead Z h0 (((a, Sum.inl ("java/lang/String", ns_String, [(.ref b), (.int (0 : Int32))])) : Addr × OObj) :: ((b, Sum.inr (.byte, [(.int y0), (.int y1), (.int y2)])) : Addr × OObj) :: F)) :
    MetFree l (⟨"com/example/hermod/hermod/PercentEncoding", "isDotSegment", "(Ljava/lang/String;)Z"⟩ : MethodName) (head1 (Jvm.Cond.code (⟨"com/example/hermod/hermod/PercentEncoding", "isDotSegment", "(Ljava/lang/String;)Z"⟩ : MethodName) prog_11_method_6_code 1 (some .boolean) :: ws) ({ frames := 2, cells := 4, slots := 20, locals := 28 } : Room)) (fun a_ U => a_ = #[(.ref a)] ∧ Z.Warmed39 U.vm ∧ U.heap = h0 ∧ CHv Z EL U.vm h0) (fun _ _ _ _ _ => True) (fun _ U o U' => ∃ v L, o = .returned v ∧ Q_id3 Z a b G y0 y1 y2 EL h0 n0 F v U'.heap L ∧ CHr Z EL U.vm U.heap U'.vm U'.heap ∧ ReturnedEndW U o U' L ({ frames := 2, cells := 4, slots := 20, locals := 28 } : Room).cells ({ frames := 2, cells := 4, slots := 20, locals := 28 } : Room).slots) := by
  refine MetFree.of_bodySF (plainFor_of_name pn_13) hisR ?_
  intro p e s m args below meth c s₁ Bd hml0 hP hK
  obtain ⟨rfl, hZ, hh, hCH⟩ := hP
  have hx := Bd.exec
  have hby := Bd.bytes
  have hlk : meth.locks = false := Bd.notSynchronized
  have hml : c.maxLocals = 1 := hml0
  have hown : s.vm.findClass "com/example/hermod/hermod/PercentEncoding" = some m.cls := findClass_of_methodNamed Bd.named
  have hnm := (name_of_methodNamed Bd.named Bd.method).1
  have X0 : Stand p l e ({ frames := 2, cells := 4, slots := 20, locals := 28 } : Room) s m #[(.ref a)] below meth c s₁ [] 0 0 := Stand.of_body Bd
  have e0 : s₁.heap = h0 := by rw [← hh, Bd.state]; rfl
  have N0 := Fr.nil n0
  show OGets p e below (OLeavesW s Z EL (Q_id3 Z a b G y0 y1 y2 EL h0 n0 F ) ({ frames := 2, cells := 4, slots := 20, locals := 28 } : Room).cells ({ frames := 2, cells := 4, slots := 20, locals := 28 } : Room).slots) _
  refine OGets.enter (ef_id3 m a) ?_
  show OGets p e below _ (s₁.setTop (mkF m 0 #[.val (.ref a)] []))
  refine OGets.step (fun _ => XS.aloadN X0.here hx rfl (hb hby d11m6_0) rfl rfl) ?_
  obtain ⟨a527, T527, h527, k527, b527, kc527, X527, e527, E527, S527, hk527, hZ527, hown527, Ex527, Fc527, Fv527, Av527, la527, lb527, R527', -, ne527, st527⟩ := ldcCH (EL := EL) (show Stand p l e _ (s.setVm s.vm) m #[(.ref a)] below meth c s₁ _ _ _ from X0) hx hZ hown (hw _ (List.mem_of_getElem? (i := 32) rfl)) (own_wS hw) e0 (State.WarmedH.since (State.WarmedH.refl s) 0) (Nat.zero_le _) hEL hm91 hCH (vs := [(.int (46 : Int32))]) (z := (1 : Int32)) ⟨by decide +kernel, by decide +kernel⟩ (by decide) (by decide) (g := (mkF m 1 #[.val (.ref a)] [(.ref a)])) rfl (hb hby d11m6_1) (n := 4) (by decide +kernel) (by decide) (by decide) (by decide)
  have R527 : CHr Z EL s.vm h0 T527.vm h527 := R527'
  have Vs527 : OView Z 0 h527 (((a527, Sum.inl ("java/lang/String", ns_String, [(.ref b527), (.int (0 : Int32))])) : Addr × OObj) :: ((b527, Sum.inr (.byte, [(.int (46 : Int32))])) : Addr × OObj) :: []) := own_str (lay_ns_String hw) (hw _ (List.mem_of_getElem? (i := 7) rfl)) Ex527 Fv527 Fc527 Av527 (by decide)
  have Vr527 : ORead Z h527 (((a527, Sum.inl ("java/lang/String", ns_String, [(.ref b527), (.int (0 : Int32))])) : Addr × OObj) :: ((b527, Sum.inr (.byte, [(.int (46 : Int32))])) : Addr × OObj) :: ((a, Sum.inl ("java/lang/String", ns_String, [(.ref b), (.int (0 : Int32))])) : Addr × OObj) :: ((b, Sum.inr (.byte, [(.int y0), (.int y1), (.int y2)])) : Addr × OObj) :: F) := ORead.app Vs527.read (V0.ext E527)
  refine OGets.step st527 ?_
  have V528_ : ORead Z h527 (((a, Sum.inl ("java/lang/String", ns_String, [(.ref b), (.int (0 : Int32))])) : Addr × OObj) :: ((b, Sum.inr (.byte, [(.int y0), (.int y1), (.int y2)])) : Addr × OObj) :: ((a527, Sum.inl ("java/lang/String", ns_String, [(.ref b527), (.int (0 : Int32))])) : Addr × OObj) :: ((b527, Sum.inr (.byte, [(.int (46 : Int32))])) : Addr × OObj) :: F) := ((Vr527.bring 3 rfl).bring 3 rfl)
  obtain ⟨cq528, kq528, q528a, q528b, q528c⟩ := isOf hZ527 e527 (V528_.exa 0 rfl)
  obtain ⟨_, _, ⟨T528, L528, k528, n528⟩, -, X528, ⟨Lc528, hQ528, l528, y528, z528⟩, st528⟩ := X527.virtualBack hx (y := (⟨"java/lang/String", "equals", "(Ljava/lang/Object;)Z"⟩ : MethodName)) (z := (⟨"java/lang/String", "equals", "(Ljava/lang/Object;)Z"⟩ : MethodName)) hown527 (mvT hZ527 (hw _ (List.mem_of_getElem? (i := 33) rfl))) (mvT hZ527 (hw _ (List.mem_of_getElem? (i := 34) rfl))) (notFace_of_selects (args := #[]) (mvT hZ527 (hw _ (List.mem_of_getElem? (i := 36) rfl)))) (mvT hZ527 (hw _ (List.mem_of_getElem? (i := 36) rfl))) (mvT hZ527 (hw _ (List.mem_of_getElem? (i := 35) rfl))) (by decide) (backOf (W := 0) (rm_eq31 l Z a0 hw [] a b a527 b527 G y0 y1 y2 h527 n0 _ (Nat.le_trans Z0 E527.1) (S0.ext E527) hG V528_) hZ527 (hw _ (List.mem_of_getElem? (i := 37) rfl)) (hw _ (List.mem_of_getElem? (i := 8) rfl)) (by decide) (by decide)) q528a q528c (g := (mkF m 3 #[.val (.ref a)] [(.ref a527), (.ref a)])) rfl (by rw [hml]; rfl) (Steps.refl _) (argsL := [(.ref a527)]) (rest := []) (lenOf pd_14 rfl) rfl (by show 2 * 0 + _ ≤ _; exact Nat.le_of_eq rfl) (hb hby d11m6_3) (fun _ _ => ⟨rfl, e527, Nat.le_of_ble_eq_true rfl, Nat.le_of_ble_eq_true rfl⟩)
  dsimp only [Pt.U, Pt.locs, Pt.cells, Pt.slots] at X528 l528 y528 z528 st528 hQ528
  rw [l528, y528, z528] at X528
  obtain ⟨rfl, rfl, e528⟩ := hQ528
  have X528 : Stand p l e _ (s.setVm T527.vm) m #[(.ref a)] below meth c T528 [] 2 8 := X528
  refine OGets.after st528 ?_
  refine OGets.step (fun _ => XS.ifNo X528.here hx rfl (hb hby d11m6_6) rfl ((if0 _ _).trans (teq (by decide : (0 : Int32) = (0 : Int32))).2)) ?_
  refine OGets.step (fun _ => XS.aloadN X528.here hx rfl (hb hby d11m6_9) rfl rfl) ?_
  obtain ⟨a530, T530, h530, k530, b530, kc530, X530, e530, E530, S530, hk530, hZ530, hown530, Ex530, Fc530, Fv530, Av530, la530, lb530, R530', -, ne530, st530⟩ := ldcCH (EL := EL) X528 hx hZ527 hown527 (hw _ (List.mem_of_getElem? (i := 44) rfl)) (own_wS hw) e528 S527 hk527 hEL hm97 R527.1 (vs := [(.int (46 : Int32)), (.int (46 : Int32))]) (z := (2 : Int32)) ⟨by decide +kernel, by decide +kernel⟩ (by decide) (by decide) (g := (mkF m 10 #[.val (.ref a)] [(.ref a)])) rfl (hb hby d11m6_10) (n := 8) (by decide +kernel) (by decide) (by decide) (by decide)
  have R530 : CHr Z EL s.vm h0 T530.vm h530 := R527.trans R530'
  have Vs530 : OView Z 0 h530 (((a530, Sum.inl ("java/lang/String", ns_String, [(.ref b530), (.int (0 : Int32))])) : Addr × OObj) :: ((b530, Sum.inr (.byte, [(.int (46 : Int32)), (.int (46 : Int32))])) : Addr × OObj) :: []) := own_str (lay_ns_String hw) (hw _ (List.mem_of_getElem? (i := 7) rfl)) Ex530 Fv530 Fc530 Av530 (by decide)
  have Vr530 : ORead Z h530 (((a530, Sum.inl ("java/lang/String", ns_String, [(.ref b530), (.int (0 : Int32))])) : Addr × OObj) :: ((b530, Sum.inr (.byte, [(.int (46 : Int32)), (.int (46 : Int32))])) : Addr × OObj) :: ((a, Sum.inl ("java/lang/String", ns_String, [(.ref b), (.int (0 : Int32))])) : Addr × OObj) :: ((b, Sum.inr (.byte, [(.int y0), (.int y1), (.int y2)])) : Addr × OObj) :: ((a527, Sum.inl ("java/lang/String", ns_String, [(.ref b527), (.int (0 : Int32))])) : Addr × OObj) :: ((b527, Sum.inr (.byte, [(.int (46 : Int32))])) : Addr × OObj) :: F) := ORead.app Vs530.read (V528_.ext E530)
  refine OGets.step st530 ?_
  have V531_ : ORead Z h530 (((a, Sum.inl ("java/lang/String", ns_String, [(.ref b), (.int (0 : Int32))])) : Addr × OObj) :: ((b, Sum.inr (.byte, [(.int y0), (.int y1), (.int y2)])) : Addr × OObj) :: ((a530, Sum.inl ("java/lang/String", ns_String, [(.ref b530), (.int (0 : Int32))])) : Addr × OObj) :: ((b530, Sum.inr (.byte, [(.int (46 : Int32)), (.int (46 : Int32))])) : Addr × OObj) :: ((a527, Sum.inl ("java/lang/String", ns_String, [(.ref b527), (.int (0 : Int32))])) : Addr × OObj) :: ((b527, Sum.inr (.byte, [(.int (46 : Int32))])) : Addr × OObj) :: F) := ((Vr530.bring 3 rfl).bring 3 rfl)
  obtain ⟨cq531, kq531, q531a, q531b, q531c⟩ := isOf hZ530 e530 (V531_.exa 0 rfl)
  obtain ⟨_, _, ⟨T531, L531, k531, n531⟩, -, X531, ⟨Lc531, hQ531, l531, y531, z531⟩, st531⟩ := X530.virtualBack hx (y := (⟨"java/lang/String", "equals", "(Ljava/lang/Object;)Z"⟩ : MethodName)) (z := (⟨"java/lang/String", "equals", "(Ljava/lang/Object;)Z"⟩ : MethodName)) hown530 (mvT hZ530 (hw _ (List.mem_of_getElem? (i := 33) rfl))) (mvT hZ530 (hw _ (List.mem_of_getElem? (i := 34) rfl))) (notFace_of_selects (args := #[]) (mvT hZ530 (hw _ (List.mem_of_getElem? (i := 36) rfl)))) (mvT hZ530 (hw _ (List.mem_of_getElem? (i := 36) rfl))) (mvT hZ530 (hw _ (List.mem_of_getElem? (i := 35) rfl))) (by decide) (backOf (W := 0) (rm_eq32 l Z a0 hw [] a b a530 b530 G y0 y1 y2 h530 n0 _ (Nat.le_trans (Nat.le_trans Z0 E527.1) E530.1) ((S0.ext E527).ext E530) hG V531_) hZ530 (hw _ (List.mem_of_getElem? (i := 37) rfl)) (hw _ (List.mem_of_getElem? (i := 8) rfl)) (by decide) (by decide)) q531a q531c (g := (mkF m 12 #[.val (.ref a)] [(.ref a530), (.ref a)])) rfl (by rw [hml]; rfl) (Steps.refl _) (argsL := [(.ref a530)]) (rest := []) (lenOf pd_14 rfl) rfl (by show 2 * 0 + _ ≤ _; exact Nat.le_of_eq rfl) (hb hby d11m6_12) (fun _ _ => ⟨rfl, e530, Nat.le_of_ble_eq_true rfl, Nat.le_of_ble_eq_true rfl⟩)
  dsimp only [Pt.U, Pt.locs, Pt.cells, Pt.slots] at X531 l531 y531 z531 st531 hQ531
  rw [l531, y531, z531] at X531
  obtain ⟨rfl, rfl, e531⟩ := hQ531
  have X531 : Stand p l e _ (s.setVm T530.vm) m #[(.ref a)] below meth c T531 [] 4 20 := X531
  refine OGets.after st531 ?_
  refine OGets.step (fun _ => XS.ifYes X531.here hx rfl (pc0 := 15) (pc' := 22) rfl (hb hby d11m6_15) rfl ((if0 _ _).trans (teq (by decide : (0 : Int32) = (0 : Int32))).1) (by decide) (by decide)) ?_
  refine OGets.step (fun _ => XS.iconst X531.here hx rfl (hb hby d11m6_22)) ?_
  refine OGets.retNW X531 hx hlk (t := .boolean) Bd.returns (by simp) (hb hby d11m6_23) S530 (by rw [e531]; exact hk530) (by rw [hh, e531]; exact R530.trans (CHv.at X531 hZ530 hEL R530.1)) (Nat.le_of_ble_eq_true rfl) (Nat.le_of_ble_eq_true rfl) ?_
  refine ⟨congrArg (fun z => some (Value.int z)) (show _ = (0 : Int32) from by decide), rfl, ?_⟩
  rw [e531]
  exact (own_ext (own_ext (own_ext0 h0) E527) E530)
theorem own_d1 {x : Int32} (h : Ch x) (u : ¬ (255 : Int32) < x) : (x = 46 → f_id1 (yb x) = 1) ∧ (¬ x = 46 → f_id1 (yb x) = 0) := by
  have q := own_yb h u
  exact ⟨fun e => by rw [q.mpr e]; decide, fun e => by
    have e1 : f_le1 (yb x) = 0 := if_neg fun z => e (q.mp z)
    have e2 : f_eq1 (yb x) = 0 := if_pos e1
    exact if_pos e2⟩
theorem own_d2 {x y : Int32} (h : Ch x) (u : ¬ (255 : Int32) < x) (h' : Ch y) (u' : ¬ (255 : Int32) < y) : (x = 46 → y = 46 → f_id2 (yb x) (yb y) = 1) ∧ (¬ (x = 46 ∧ y = 46) → f_id2 (yb x) (yb y) = 0) := by
  have q := own_yb h u
  have q' := own_yb h' u'
  refine ⟨fun e e' => by rw [q.mpr e, q'.mpr e']; decide, fun e => ?_⟩
  have e1 : f_le2 (yb x) (yb y) = 0 := by
    by_cases z : yb x = 46
    · exact (if_pos z).trans (if_neg fun z' => e ⟨q.mp z, q'.mp z'⟩)
    · exact if_neg z
  have e2 : f_eq2 (yb x) (yb y) = 0 := if_pos e1
  exact if_pos e2
theorem own_46 {x : Int32} (u : (255 : Int32) < x) : ¬ x = 46 := fun e => by rw [e] at u; exact absurd u (by decide)
theorem pd_15 : parseMethodDescriptor "(I)C" = some ⟨[.int], some .char⟩ := by decide +kernel
theorem pd_16 : parseMethodDescriptor "([C)V" = some ⟨[(.array .char)], none⟩ := by decide +kernel
theorem pd_17 : parseMethodDescriptor "(Ljava/lang/String;)Z" = some ⟨[(.object "java/lang/String")], some .boolean⟩ := by decide +kernel
theorem ef_law (m : MethodId) (x0 : Int32) (x1 : Int32) (x2 : Int32) (x3 : Int32) : entryFrame m #[(.int x0), (.int x1), (.int x2), (.int x3)] maxLocals = mkF m 0 #[.val (.int x0), .val (.int x1), .val (.int x2), .val (.int x3), .unset, .unset, .unset, .unset, .unset, .unset] [] := by first | (simp [entryFrame, mkF, argsToLocals, Value.category, maxLocals]; done) | rfl
def Q_law (Z : State) (p0 : Int32) (p1 : Int32) (p2 : Int32) (p3 : Int32) (G : Int32) (EL : List (String × Nat)) (h0 : Heap) (n0 : Nat) (v : Option Value) (h : Heap) (L : List Loc) : Prop := v = some (.int 1) ∧ Fr n0 L
set_option maxRecDepth 65536 in
set_option maxHeartbeats 40000000 in
theorem rm_law (l : Launch) (Z : State) (a0 : Array Value) (hw : ∀ d ∈ tables_1, d.before a0 Z = true) (ws : List Jvm.Cond) (p0 : Int32) (p1 : Int32) (p2 : Int32) (p3 : Int32) (G : Int32) (EL : List (String × Nat)) (h0 : Heap) (n0 : Nat) (Z0 : n0 ≤ h0.size) (hZh : Z.heap = h0) (S0 : Sta Z Z.heap "java/lang/String" "COMPACT_STRINGS" "Z" (.int G)) (hG : ¬ G = (0 : Int32)) (SA : Sta Z Z.heap "java/lang/StringUTF16" "$assertionsDisabled" "Z" (.int (1 : Int32))) (SH : Sta Z Z.heap "java/lang/StringUTF16" "HI_BYTE_SHIFT" "I" (.int (0 : Int32))) (SL : Sta Z Z.heap "java/lang/StringUTF16" "LO_BYTE_SHIFT" "I" (.int (8 : Int32))) (hm91 : (("com/example/hermod/hermod/PercentEncoding", 91) : String × Nat) ∈ EL) (hm97 : (("com/example/hermod/hermod/PercentEncoding", 97) : String × Nat) ∈ EL) (hm7 : (("java/lang/String", 7) : String × Nat) ∈ EL) (hEL : EW Z a0 EL) (V0 : OView Z n0 h0 ([])) (O0 : Old Z n0 h0) :
    MetFree l x (head1 (Jvm.Cond.code x code maxLocals ret :: ws) room_1) (fun a_ U => a_ = #[(.int p0), (.int p1), (.int p2), (.int p3)] ∧ Z.Warmed39 U.vm ∧ U.heap = h0 ∧ CHv Z EL U.vm h0) (fun _ _ _ _ _ => True) (fun _ U o U' => ∃ v L, o = .returned v ∧ Q_law Z p0 p1 p2 p3 G EL h0 n0 v U'.heap L ∧ CHr Z EL U.vm U.heap U'.vm U'.heap ∧ ReturnedEndW U o U' L 24 3200) := by
  refine MetFree.of_bodySF (plainFor_of_name pn_0) hisR ?_
  intro p e s m args below meth c s₁ Bd hml0 hP hK
  obtain ⟨rfl, hZ, hh, hCH⟩ := hP
  have hx := Bd.exec
  have hby := Bd.bytes
  have hlk : meth.locks = false := Bd.notSynchronized
  have hml : c.maxLocals = 10 := hml0
  have hown : s.vm.findClass "com/example/hermod/hermod/PercentEncodingIsDotSegmentPinLaw" = some m.cls := findClass_of_methodNamed Bd.named
  have hnm := (name_of_methodNamed Bd.named Bd.method).1
  have X0 : Stand p l e room_1 s m #[(.int p0), (.int p1), (.int p2), (.int p3)] below meth c s₁ [] 0 0 := Stand.of_body Bd
  have e0 : s₁.heap = h0 := by rw [← hh, Bd.state]; rfl
  have N0 := Fr.nil n0
  show OGets p e below (OLeavesW s Z EL (Q_law Z p0 p1 p2 p3 G EL h0 n0 ) 24 3200) _
  refine OGets.enter (ef_law m p0 p1 p2 p3) ?_
  show OGets p e below _ (s₁.setTop (mkF m 0 #[.val (.int p0), .val (.int p1), .val (.int p2), .val (.int p3), .unset, .unset, .unset, .unset, .unset, .unset] []))
  refine OGets.step (fun _ => XS.iloadN X0.here hx rfl (hb hby at_0) rfl) ?_
  refine OGets.step (fun _ => XS.iconst X0.here hx rfl (hb hby at_1)) ?_
  refine OGets.step (fun _ => XS.iand X0.here hx rfl (hb hby at_2) rfl) ?_
  show OGets p e below _ (s₁.setTop (mkF m 3 #[.val (.int p0), .val (.int p1), .val (.int p2), .val (.int p3), .unset, .unset, .unset, .unset, .unset, .unset] [(.int (p0 &&& (3 : Int32)))]))
  generalize (p0 &&& (3 : Int32)) = ln
  show OGets p e below _ (s₁.setTop (mkF m 3 #[.val (.int p0), .val (.int p1), .val (.int p2), .val (.int p3), .unset, .unset, .unset, .unset, .unset, .unset] [(.int ln)]))
  refine OGets.step (fun _ => XS.istore X0.here hx rfl (hb hby at_3) rfl (l' := #[.val (.int p0), .val (.int p1), .val (.int p2), .val (.int p3), .val (.int ln), .unset, .unset, .unset, .unset, .unset]) rfl) ?_
  refine OGets.step (fun _ => XS.iloadN X0.here hx rfl (hb hby at_5) rfl) ?_
  obtain ⟨_, _, ⟨T533, L533, k533, n533⟩, -, X533, ⟨Lc533, hQ533, l533, y533, z533⟩, st533⟩ := Jvm.LawKit.callS X0 hx (y := (⟨"com/example/hermod/hermod/PercentEncodingIsDotSegmentPinLaw", "draw", "(I)C"⟩ : MethodName)) hown (mvT hZ (hw _ (List.mem_of_getElem? (i := 0) rfl))) (mvT hZ (hw _ (List.mem_of_getElem? (i := 1) rfl))) (mvT hZ (hw _ (List.mem_of_getElem? (i := 2) rfl))) (mvT hZ (hw _ (List.mem_of_getElem? (i := 3) rfl))) (by decide) (backOf (W := 0) (rm_dr l Z a0 hw [] p1 h0 n0  Z0 ) hZ (hw _ (List.mem_of_getElem? (i := 3) rfl)) (hw _ (List.mem_of_getElem? (i := 2) rfl)) (by decide) (by decide)) (g := (mkF m 6 #[.val (.int p0), .val (.int p1), .val (.int p2), .val (.int p3), .val (.int ln), .unset, .unset, .unset, .unset, .unset] [(.int p1)])) rfl (by rw [hml]; rfl) (argsL := [(.int p1)]) (rest := []) (lenOf pd_15 rfl) rfl (by show 2 * 0 + _ ≤ _; exact Nat.le_of_eq rfl) (hb hby at_6) (fun _ _ => ⟨rfl, e0, Nat.le_of_ble_eq_true rfl, Nat.le_of_ble_eq_true rfl⟩)
  dsimp only [Pt.U, Pt.locs, Pt.cells, Pt.slots] at X533 l533 y533 z533 st533 hQ533
  rw [l533, y533, z533] at X533
  obtain ⟨c533, rfl, w533, rfl, e533⟩ := hQ533
  have N533 := Fr.app N0 (Fr.nil n0)
  refine OGets.step st533 ?_
  refine OGets.step (fun _ => XS.istore X533.here hx rfl (hb hby at_9) rfl (l' := #[.val (.int p0), .val (.int p1), .val (.int p2), .val (.int p3), .val (.int ln), .val (.int c533), .unset, .unset, .unset, .unset]) rfl) ?_
  refine OGets.step (fun _ => XS.iloadN X533.here hx rfl (hb hby at_11) rfl) ?_
  obtain ⟨_, _, ⟨T534, L534, k534, n534⟩, -, X534, ⟨Lc534, hQ534, l534, y534, z534⟩, st534⟩ := Jvm.LawKit.callS X533 hx (y := (⟨"com/example/hermod/hermod/PercentEncodingIsDotSegmentPinLaw", "draw", "(I)C"⟩ : MethodName)) hown (mvT hZ (hw _ (List.mem_of_getElem? (i := 0) rfl))) (mvT hZ (hw _ (List.mem_of_getElem? (i := 1) rfl))) (mvT hZ (hw _ (List.mem_of_getElem? (i := 2) rfl))) (mvT hZ (hw _ (List.mem_of_getElem? (i := 3) rfl))) (by decide) (backOf (W := 0) (rm_dr l Z a0 hw [] p2 h0 n0  Z0 ) hZ (hw _ (List.mem_of_getElem? (i := 3) rfl)) (hw _ (List.mem_of_getElem? (i := 2) rfl)) (by decide) (by decide)) (g := (mkF m 12 #[.val (.int p0), .val (.int p1), .val (.int p2), .val (.int p3), .val (.int ln), .val (.int c533), .unset, .unset, .unset, .unset] [(.int p2)])) rfl (by rw [hml]; rfl) (argsL := [(.int p2)]) (rest := []) (lenOf pd_15 rfl) rfl (by show 2 * 0 + _ ≤ _; exact Nat.le_of_eq rfl) (hb hby at_12) (fun _ _ => ⟨rfl, e533, Nat.le_of_ble_eq_true rfl, Nat.le_of_ble_eq_true rfl⟩)
  dsimp only [Pt.U, Pt.locs, Pt.cells, Pt.slots] at X534 l534 y534 z534 st534 hQ534
  rw [l534, y534, z534] at X534
  obtain ⟨c534, rfl, w534, rfl, e534⟩ := hQ534
  have N534 := Fr.app N533 (Fr.nil n0)
  refine OGets.step st534 ?_
  refine OGets.step (fun _ => XS.istore X534.here hx rfl (hb hby at_15) rfl (l' := #[.val (.int p0), .val (.int p1), .val (.int p2), .val (.int p3), .val (.int ln), .val (.int c533), .val (.int c534), .unset, .unset, .unset]) rfl) ?_
  refine OGets.step (fun _ => XS.iloadN X534.here hx rfl (hb hby at_17) rfl) ?_
  obtain ⟨_, _, ⟨T535, L535, k535, n535⟩, -, X535, ⟨Lc535, hQ535, l535, y535, z535⟩, st535⟩ := Jvm.LawKit.callS X534 hx (y := (⟨"com/example/hermod/hermod/PercentEncodingIsDotSegmentPinLaw", "draw", "(I)C"⟩ : MethodName)) hown (mvT hZ (hw _ (List.mem_of_getElem? (i := 0) rfl))) (mvT hZ (hw _ (List.mem_of_getElem? (i := 1) rfl))) (mvT hZ (hw _ (List.mem_of_getElem? (i := 2) rfl))) (mvT hZ (hw _ (List.mem_of_getElem? (i := 3) rfl))) (by decide) (backOf (W := 0) (rm_dr l Z a0 hw [] p3 h0 n0  Z0 ) hZ (hw _ (List.mem_of_getElem? (i := 3) rfl)) (hw _ (List.mem_of_getElem? (i := 2) rfl)) (by decide) (by decide)) (g := (mkF m 18 #[.val (.int p0), .val (.int p1), .val (.int p2), .val (.int p3), .val (.int ln), .val (.int c533), .val (.int c534), .unset, .unset, .unset] [(.int p3)])) rfl (by rw [hml]; rfl) (argsL := [(.int p3)]) (rest := []) (lenOf pd_15 rfl) rfl (by show 2 * 0 + _ ≤ _; exact Nat.le_of_eq rfl) (hb hby at_18) (fun _ _ => ⟨rfl, e534, Nat.le_of_ble_eq_true rfl, Nat.le_of_ble_eq_true rfl⟩)
  dsimp only [Pt.U, Pt.locs, Pt.cells, Pt.slots] at X535 l535 y535 z535 st535 hQ535
  rw [l535, y535, z535] at X535
  obtain ⟨c535, rfl, w535, rfl, e535⟩ := hQ535
  have N535 := Fr.app N534 (Fr.nil n0)
  refine OGets.step st535 ?_
  refine OGets.step (fun _ => XS.istore X535.here hx rfl (hb hby at_21) rfl (l' := #[.val (.int p0), .val (.int p1), .val (.int p2), .val (.int p3), .val (.int ln), .val (.int c533), .val (.int c534), .val (.int c535), .unset, .unset]) rfl) ?_
  refine OGets.step (fun _ => XS.iload X535.here hx rfl (hb hby at_23) rfl) ?_
  by_cases hc25_536 : ln = (0 : Int32)
  · refine OGets.step (fun _ => XS.ifNo X535.here hx rfl (hb hby at_25) rfl ((if0 _ _).trans (teq hc25_536).2)) ?_
    show OGets p e below _ (T535.setTop (mkF m 28 #[.val (.int p0), .val (.int p1), .val (.int p2), .val (.int p3), .val (.int ln), .val (.int c533), .val (.int c534), .val (.int c535), .unset, .unset] []))
    obtain ⟨T537, h537, X537, e537, E537, A537, D537, -, st537⟩ := newO X535 hx hZ hown (hw _ (List.mem_of_getElem? (i := 6) rfl)) (hw _ (List.mem_of_getElem? (i := 7) rfl)) (hw _ (List.mem_of_getElem? (i := 8) rfl)) e535 (g := (mkF m 28 #[.val (.int p0), .val (.int p1), .val (.int p2), .val (.int p3), .val (.int ln), .val (.int c533), .val (.int c534), .val (.int c535), .unset, .unset] [])) rfl (hb hby at_28) (by decide) (by decide)
    have V537' := V0.newObj (ns := ns_String) (vs := [.null, (.int (0 : Int32))]) Z0 E537 A537 D537 (lay_ns_String hw) (by decide) (by decide)
    have Z537 : n0 ≤ h537.size := Nat.le_trans Z0 E537.1
    obtain ⟨b537, g537⟩ : ∃ z, z = h0.size := ⟨_, rfl⟩
    rw [← g537] at V537' st537
    have V537 : OView Z n0 h537 (((b537, Sum.inl ("java/lang/String", ns_String, [.null, (.int (0 : Int32))])) : Addr × OObj) :: []) := V537'
    have O537 := O0.ext E537
    refine OGets.step st537 ?_
    refine OGets.step (fun _ => XS.dup X537.here hx rfl (hb hby at_31) rfl rfl) ?_
    refine OGets.step (fun _ => XS.iconst X537.here hx rfl (hb hby at_32)) ?_
    obtain ⟨T538, h538, k538, X538, e538, E538, A538, st538⟩ := newP X537 hx hZ (hw _ (List.mem_of_getElem? (i := 9) rfl)) e537 (g := (mkF m 33 #[.val (.int p0), .val (.int p1), .val (.int p2), .val (.int p3), .val (.int ln), .val (.int c533), .val (.int c534), .val (.int c535), .unset, .unset] [(.int (0 : Int32)), (.ref b537), (.ref b537)])) rfl (hb hby at_33) rfl (by decide) (cap := 0) (by decide) (by decide) (by decide) (by decide)
    have V538' := V537.newArr Z537 E538 A538 0 rfl
    have Z538 : n0 ≤ h538.size := Nat.le_trans Z537 E538.1
    obtain ⟨b538, g538⟩ : ∃ z, z = h537.size := ⟨_, rfl⟩
    rw [← g538] at V538' st538
    have V538 : OView Z n0 h538 (((b538, Sum.inr (.char, [])) : Addr × OObj) :: ((b537, Sum.inl ("java/lang/String", ns_String, [.null, (.int (0 : Int32))])) : Addr × OObj) :: []) := V538'
    have O538 := O537.ext E538
    refine OGets.step st538 ?_
    have R539 : CHr Z EL s.vm h0 s.vm h538 := CHr.ext (by rw [← hZh]; exact O538.2) hCH
    show OGets p e below _ (T538.setTop (mkF m 35 #[.val (.int p0), .val (.int p1), .val (.int p2), .val (.int p3), .val (.int ln), .val (.int c533), .val (.int c534), .val (.int c535), .unset, .unset] [(.ref b538), (.ref b537), (.ref b537)]))
    have V540_ : OView Z _ h538 (((b537, Sum.inl ("java/lang/String", ns_String, [.null, (.int (0 : Int32))])) : Addr × OObj) :: ((b538, Sum.inr (.char, [])) : Addr × OObj) :: []) := (V538.bring 1 rfl)
    have Xw540 : Stand p l e _ (s.setVm s.vm) m #[(.int p0), (.int p1), (.int p2), (.int p3)] below meth c T538 _ _ _ := X538
    obtain ⟨_, _, ⟨T540, L540, k540, n540⟩, -, X540', S540', hgr540, ⟨Lc540, hQ540, l540, y540, z540, hC540⟩, st540⟩ := Xw540.specialBackS hx (y := (⟨"java/lang/String", "<init>", "([C)V"⟩ : MethodName)) rfl hown (mvT hZ (hw _ (List.mem_of_getElem? (i := 10) rfl))) (mvT hZ (hw _ (List.mem_of_getElem? (i := 11) rfl))) (mvT hZ (hw _ (List.mem_of_getElem? (i := 12) rfl))) (by decide) (backOfSH (EL := EL) (W := 1) (rm_i1_0 l Z a0 hw [] b537 b538 EL h538 n0 _ Z538 hm7 hEL V540_ O538) hZ (hw _ (List.mem_of_getElem? (i := 12) rfl)) (hw _ (List.mem_of_getElem? (i := 8) rfl)) (by decide) (by decide) hEL R539.1) (g := (mkF m 35 #[.val (.int p0), .val (.int p1), .val (.int p2), .val (.int p3), .val (.int ln), .val (.int c533), .val (.int c534), .val (.int c535), .unset, .unset] [(.ref b538), (.ref b537), (.ref b537)])) rfl (by rw [hml]; rfl) (Steps.refl _) (a := b537) (argsL := [(.ref b538)]) (rest := [(.ref b537)]) (lenOf pd_16 rfl) rfl (by show 2 * 0 + _ ≤ _; exact Nat.le_of_eq rfl) (hb hby at_35) (fun _ _ => ⟨rfl, e538, Nat.le_of_ble_eq_true rfl, Nat.le_of_ble_eq_true rfl⟩)
    dsimp only [Pt.U, Pt.locs, Pt.cells, Pt.slots] at X540' S540' hgr540 l540 y540 z540 st540 hQ540 hC540
    rw [l540, y540, z540] at X540'
    have X540 : Stand p l e _ (s.setVm T540.vm) m #[(.int p0), (.int p1), (.int p2), (.int p3)] below meth c T540 _ _ _ := X540'
    have S540 : s.Since T540.vm T540.heap.size := S540'
    have hZ540 : Z.Warmed39 (s.setVm T540.vm).vm := State.Warmed39.trans (t := (s.setVm s.vm)) hZ S540'.1
    have hown540 : (s.setVm T540.vm).vm.findClass "com/example/hermod/hermod/PercentEncodingIsDotSegmentPinLaw" = some m.cls := by rw [show (s.setVm T540.vm).vm = T540.vm from rfl, S540'.1.alike.findClass]; exact hown
    obtain ⟨rfl, N540q, b540, V540, O540q⟩ := hQ540
    have N540 := Fr.app N535 N540q
    have R540 : CHr Z EL s.vm h0 T540.vm T540.heap := R539.trans hC540
    refine OGets.after st540 ?_
    refine OGets.step (fun _ => XS.astore X540.here hx rfl (hb hby at_38) rfl rfl (l' := #[.val (.int p0), .val (.int p1), .val (.int p2), .val (.int p3), .val (.int ln), .val (.int c533), .val (.int c534), .val (.int c535), .val (.ref b537), .unset]) rfl) ?_
    refine OGets.step (fun _ => XS.goto X540.here hx rfl (pc0 := 40) (pc' := 127) rfl (hb hby at_40) (by decide) (by decide)) ?_
    refine OGets.step (fun _ => XS.iload X540.here hx rfl (hb hby at_127) rfl) ?_
    refine OGets.step (fun _ => XS.iconst X540.here hx rfl (hb hby at_129)) ?_
    refine OGets.step (fun _ => XS.icmpYes X540.here hx rfl (pc0 := 130) (pc' := 140) rfl (hb hby at_130) rfl (feq (by rw [hc25_536]; decide : ¬ (ln = (1 : Int32)))).2 (by decide) (by decide)) ?_
    show OGets p e below _ (T540.setTop (mkF m 140 #[.val (.int p0), .val (.int p1), .val (.int p2), .val (.int p3), .val (.int ln), .val (.int c533), .val (.int c534), .val (.int c535), .val (.ref b537), .unset] []))
    refine OGets.step (fun _ => XS.iload X540.here hx rfl (hb hby at_140) rfl) ?_
    refine OGets.step (fun _ => XS.iconst X540.here hx rfl (hb hby at_142)) ?_
    refine OGets.step (fun _ => XS.icmpYes X540.here hx rfl (pc0 := 143) (pc' := 164) rfl (hb hby at_143) rfl (feq (by rw [hc25_536]; decide : ¬ (ln = (2 : Int32)))).2 (by decide) (by decide)) ?_
    refine OGets.step (fun _ => XS.iconst X540.here hx rfl (hb hby at_164)) ?_
    refine OGets.step (fun _ => XS.istore X540.here hx rfl (hb hby at_165) rfl (l' := #[.val (.int p0), .val (.int p1), .val (.int p2), .val (.int p3), .val (.int ln), .val (.int c533), .val (.int c534), .val (.int c535), .val (.ref b537), .val (.int (0 : Int32))]) rfl) ?_
    refine OGets.step (fun _ => XS.aload X540.here hx rfl (hb hby at_167) rfl rfl) ?_
    show OGets p e below _ (T540.setTop (mkF m 169 #[.val (.int p0), .val (.int p1), .val (.int p2), .val (.int p3), .val (.int ln), .val (.int c533), .val (.int c534), .val (.int c535), .val (.ref b537), .val (.int (0 : Int32))] [(.ref b537)]))
    have Xw543 : Stand p l e _ (s.setVm T540.vm) m #[(.int p0), (.int p1), (.int p2), (.int p3)] below meth c T540 _ _ _ := X540
    obtain ⟨_, _, ⟨T543, L543, k543, n543⟩, -, X543', S543', hgr543, ⟨Lc543, hQ543, l543, y543, z543, hC543⟩, st543⟩ := callSS Xw543 hx (y := (⟨"com/example/hermod/hermod/PercentEncoding", "isDotSegment", "(Ljava/lang/String;)Z"⟩ : MethodName)) hown540 (mvT hZ540 (hw _ (List.mem_of_getElem? (i := 28) rfl))) (mvT hZ540 (hw _ (List.mem_of_getElem? (i := 29) rfl))) (mvT hZ540 (hw _ (List.mem_of_getElem? (i := 30) rfl))) (mvT hZ540 (hw _ (List.mem_of_getElem? (i := 31) rfl))) (by decide) (backOfSH (EL := EL) (W := 0) (rm_id0 l Z a0 hw [] b537 b540 G EL T540.heap n0 _ (Nat.le_trans Z538 (by have q := hgr540; rw [e538] at q; exact q)) (S0.ext O540q.2) hG hm91 hm97 hEL V540) hZ540 (hw _ (List.mem_of_getElem? (i := 31) rfl)) (hw _ (List.mem_of_getElem? (i := 30) rfl)) (by decide) (by decide) hEL R540.1) (g := (mkF m 169 #[.val (.int p0), .val (.int p1), .val (.int p2), .val (.int p3), .val (.int ln), .val (.int c533), .val (.int c534), .val (.int c535), .val (.ref b537), .val (.int (0 : Int32))] [(.ref b537)])) rfl (by rw [hml]; rfl) (argsL := [(.ref b537)]) (rest := []) (lenOf pd_17 rfl) rfl (by show 2 * 0 + _ ≤ _; exact Nat.le_of_eq rfl) (hb hby at_169) (fun _ _ => ⟨rfl, rfl, Nat.le_of_ble_eq_true rfl, Nat.le_of_ble_eq_true rfl⟩)
    dsimp only [Pt.U, Pt.locs, Pt.cells, Pt.slots] at X543' S543' hgr543 l543 y543 z543 st543 hQ543 hC543
    rw [l543, y543, z543] at X543'
    have X543 : Stand p l e _ (s.setVm T543.vm) m #[(.int p0), (.int p1), (.int p2), (.int p3)] below meth c T543 _ _ _ := X543'
    have S543 : s.Since T543.vm T543.heap.size := S540.trans S543' (Nat.le_trans (Nat.le_refl _) hgr543)
    have hZ543 : Z.Warmed39 (s.setVm T543.vm).vm := State.Warmed39.trans (t := (s.setVm T540.vm)) hZ540 S543'.1
    have hown543 : (s.setVm T543.vm).vm.findClass "com/example/hermod/hermod/PercentEncodingIsDotSegmentPinLaw" = some m.cls := by rw [show (s.setVm T543.vm).vm = T543.vm from rfl, S543'.1.alike.findClass]; exact hown540
    obtain ⟨rfl, rfl, E543⟩ := hQ543
    have N543 := Fr.app N540 (Fr.nil n0)
    have R543 : CHr Z EL s.vm h0 T543.vm T543.heap := R540.trans hC543
    refine OGets.after st543 ?_
    refine OGets.step (fun _ => XS.iload X543.here hx rfl (hb hby at_172) rfl) ?_
    refine OGets.step (fun _ => XS.icmpNo X543.here hx rfl (hb hby at_174) rfl (teq (rfl : (0 : Int32) = (0 : Int32))).2) ?_
    refine OGets.step (fun _ => XS.iconst X543.here hx rfl (hb hby at_177)) ?_
    refine OGets.step (fun _ => XS.goto X543.here hx rfl (pc0 := 178) (pc' := 182) rfl (hb hby at_178) (by decide) (by decide)) ?_
    refine OGets.retNW X543 hx hlk (t := .boolean) Bd.returns (by simp) (hb hby at_182) S543 (Nat.le_refl _) (by rw [hh]; exact R543.trans (CHv.at X543 hZ543 hEL R543.1)) (Nat.le_of_ble_eq_true rfl) (Nat.le_of_ble_eq_true rfl) ?_
    exact ⟨rfl, N543⟩
  · refine OGets.step (fun _ => XS.ifYes X535.here hx rfl (pc0 := 25) (pc' := 43) rfl (hb hby at_25) rfl ((if0 _ _).trans (feq hc25_536).2) (by decide) (by decide)) ?_
    show OGets p e below _ (T535.setTop (mkF m 43 #[.val (.int p0), .val (.int p1), .val (.int p2), .val (.int p3), .val (.int ln), .val (.int c533), .val (.int c534), .val (.int c535), .unset, .unset] []))
    refine OGets.step (fun _ => XS.iload X535.here hx rfl (hb hby at_43) rfl) ?_
    refine OGets.step (fun _ => XS.iconst X535.here hx rfl (hb hby at_45)) ?_
    by_cases hc46_545 : ln = (1 : Int32)
    · refine OGets.step (fun _ => XS.icmpNo X535.here hx rfl (hb hby at_46) rfl (teq hc46_545).2) ?_
      show OGets p e below _ (T535.setTop (mkF m 49 #[.val (.int p0), .val (.int p1), .val (.int p2), .val (.int p3), .val (.int ln), .val (.int c533), .val (.int c534), .val (.int c535), .unset, .unset] []))
      obtain ⟨T546, h546, X546, e546, E546, A546, D546, -, st546⟩ := newO X535 hx hZ hown (hw _ (List.mem_of_getElem? (i := 6) rfl)) (hw _ (List.mem_of_getElem? (i := 7) rfl)) (hw _ (List.mem_of_getElem? (i := 8) rfl)) e535 (g := (mkF m 49 #[.val (.int p0), .val (.int p1), .val (.int p2), .val (.int p3), .val (.int ln), .val (.int c533), .val (.int c534), .val (.int c535), .unset, .unset] [])) rfl (hb hby at_49) (by decide) (by decide)
      have V546' := V0.newObj (ns := ns_String) (vs := [.null, (.int (0 : Int32))]) Z0 E546 A546 D546 (lay_ns_String hw) (by decide) (by decide)
      have Z546 : n0 ≤ h546.size := Nat.le_trans Z0 E546.1
      obtain ⟨b546, g546⟩ : ∃ z, z = h0.size := ⟨_, rfl⟩
      rw [← g546] at V546' st546
      have V546 : OView Z n0 h546 (((b546, Sum.inl ("java/lang/String", ns_String, [.null, (.int (0 : Int32))])) : Addr × OObj) :: []) := V546'
      have O546 := O0.ext E546
      refine OGets.step st546 ?_
      refine OGets.step (fun _ => XS.dup X546.here hx rfl (hb hby at_52) rfl rfl) ?_
      refine OGets.step (fun _ => XS.iconst X546.here hx rfl (hb hby at_53)) ?_
      obtain ⟨T547, h547, k547, X547, e547, E547, A547, st547⟩ := newP X546 hx hZ (hw _ (List.mem_of_getElem? (i := 9) rfl)) e546 (g := (mkF m 54 #[.val (.int p0), .val (.int p1), .val (.int p2), .val (.int p3), .val (.int ln), .val (.int c533), .val (.int c534), .val (.int c535), .unset, .unset] [(.int (1 : Int32)), (.ref b546), (.ref b546)])) rfl (hb hby at_54) rfl (by decide) (cap := 1) (by decide) (by decide) (by decide) (by decide)
      have V547' := V546.newArr Z546 E547 A547 1 rfl
      have Z547 : n0 ≤ h547.size := Nat.le_trans Z546 E547.1
      obtain ⟨b547, g547⟩ : ∃ z, z = h546.size := ⟨_, rfl⟩
      rw [← g547] at V547' st547
      have V547 : OView Z n0 h547 (((b547, Sum.inr (.char, [(.int (0 : Int32))])) : Addr × OObj) :: ((b546, Sum.inl ("java/lang/String", ns_String, [.null, (.int (0 : Int32))])) : Addr × OObj) :: []) := V547'
      have O547 := O546.ext E547
      refine OGets.step st547 ?_
      refine OGets.step (fun _ => XS.dup X547.here hx rfl (hb hby at_56) rfl rfl) ?_
      refine OGets.step (fun _ => XS.iconst X547.here hx rfl (hb hby at_57)) ?_
      refine OGets.step (fun _ => XS.iload X547.here hx rfl (hb hby at_58) rfl) ?_
      obtain ⟨cl548, Ar548, S548⟩ := V547.arr 0 rfl
      obtain ⟨T548, h548, X548, e548, W548', st548⟩ := stC X547 hx hZ e547 Ar548 (j := (0 : Int32)) (own_inb S548 0 (by decide) (Nat.le_of_ble_eq_true rfl)) (g := (mkF m 60 #[.val (.int p0), .val (.int p1), .val (.int p2), .val (.int p3), .val (.int ln), .val (.int c533), .val (.int c534), .val (.int c535), .unset, .unset] [(.int c533), (.int (0 : Int32)), (.ref b547), (.ref b547), (.ref b546), (.ref b546)])) rfl rfl (hb hby at_60)
      rw [own_narC w533] at W548'
      have W548 := own_wr (vs := []) 0 (by decide) W548'
      have V548 : OView Z n0 h548 (((b547, Sum.inr (.char, [(.int c533)])) : Addr × OObj) :: ((b546, Sum.inl ("java/lang/String", ns_String, [.null, (.int (0 : Int32))])) : Addr × OObj) :: []) := V547.putA 0 rfl W548
      have N548 := Fr.snoc X548 N535 (V547.old 0 rfl)
      have Z548 : n0 ≤ h548.size := by rw [W548.size]; exact Z547
      have O548 := O547.wr W548 (V547.old 0 rfl)
      refine OGets.step st548 ?_
      by_cases hu549 : (255 : Int32) < c533
      · show OGets p e below _ (T548.setTop (mkF m 61 #[.val (.int p0), .val (.int p1), .val (.int p2), .val (.int p3), .val (.int ln), .val (.int c533), .val (.int c534), .val (.int c535), .unset, .unset] [(.ref b547), (.ref b546), (.ref b546)]))
        have V550_ : OView Z _ h548 (((b546, Sum.inl ("java/lang/String", ns_String, [.null, (.int (0 : Int32))])) : Addr × OObj) :: ((b547, Sum.inr (.char, [(.int c533)])) : Addr × OObj) :: []) := (V548.bring 1 rfl)
        obtain ⟨_, _, ⟨T550, L550, k550, n550⟩, -, X550, ⟨Lc550, hQ550, l550, y550, z550⟩, st550⟩ := X548.specialBack hx (y := (⟨"java/lang/String", "<init>", "([C)V"⟩ : MethodName)) rfl hown (mvT hZ (hw _ (List.mem_of_getElem? (i := 10) rfl))) (mvT hZ (hw _ (List.mem_of_getElem? (i := 11) rfl))) (mvT hZ (hw _ (List.mem_of_getElem? (i := 12) rfl))) (by decide) (backOf (W := 1) (rm_i1_10 l Z a0 hw [] b546 b547 G c533 h548 n0 _ Z548 S0 hG SA SH SL hu549 w533 V550_ O548) hZ (hw _ (List.mem_of_getElem? (i := 12) rfl)) (hw _ (List.mem_of_getElem? (i := 8) rfl)) (by decide) (by decide)) (g := (mkF m 61 #[.val (.int p0), .val (.int p1), .val (.int p2), .val (.int p3), .val (.int ln), .val (.int c533), .val (.int c534), .val (.int c535), .unset, .unset] [(.ref b547), (.ref b546), (.ref b546)])) rfl (by rw [hml]; rfl) (Steps.refl _) (a := b546) (argsL := [(.ref b547)]) (rest := [(.ref b546)]) (lenOf pd_16 rfl) rfl (by show 2 * 0 + _ ≤ _; exact Nat.le_of_eq rfl) (hb hby at_61) (fun _ _ => ⟨rfl, e548, Nat.le_of_ble_eq_true rfl, Nat.le_of_ble_eq_true rfl⟩)
        dsimp only [Pt.U, Pt.locs, Pt.cells, Pt.slots] at X550 l550 y550 z550 st550 hQ550
        rw [l550, y550, z550] at X550
        obtain ⟨rfl, N550q, b550, V550, O550q⟩ := hQ550
        have N550 := Fr.app N548 N550q
        have V550v : OView Z n0 T550.heap (((b546, Sum.inl ("java/lang/String", ns_String, [(.ref b550), (.int (1 : Int32))])) : Addr × OObj) :: ((b550, Sum.inr (.byte, [(.int (hb' c533)), (.int (lb' c533))])) : Addr × OObj) :: ((b547, Sum.inr (.char, [(.int c533)])) : Addr × OObj) :: []) := V550
        have Z550 : n0 ≤ T550.heap.size := V550v.big 0 rfl
        refine OGets.after st550 ?_
        refine OGets.step (fun _ => XS.astore X550.here hx rfl (hb hby at_64) rfl rfl (l' := #[.val (.int p0), .val (.int p1), .val (.int p2), .val (.int p3), .val (.int ln), .val (.int c533), .val (.int c534), .val (.int c535), .val (.ref b546), .unset]) rfl) ?_
        refine OGets.step (fun _ => XS.goto X550.here hx rfl (pc0 := 66) (pc' := 127) rfl (hb hby at_66) (by decide) (by decide)) ?_
        refine OGets.step (fun _ => XS.iload X550.here hx rfl (hb hby at_127) rfl) ?_
        refine OGets.step (fun _ => XS.iconst X550.here hx rfl (hb hby at_129)) ?_
        refine OGets.step (fun _ => XS.icmpNo X550.here hx rfl (hb hby at_130) rfl (teq (hc46_545 : ln = (1 : Int32))).2) ?_
        show OGets p e below _ (T550.setTop (mkF m 133 #[.val (.int p0), .val (.int p1), .val (.int p2), .val (.int p3), .val (.int ln), .val (.int c533), .val (.int c534), .val (.int c535), .val (.ref b546), .unset] []))
        refine OGets.step (fun _ => XS.iload X550.here hx rfl (hb hby at_133) rfl) ?_
        refine OGets.step (fun _ => XS.bipush X550.here hx rfl (hb hby at_135)) ?_
        refine OGets.step (fun _ => XS.icmpNo X550.here hx rfl (hb hby at_137) rfl (feq (own_46 hu549 : ¬ (c533 = (46 : Int32)))).1) ?_
        refine OGets.step (fun _ => XS.iload X550.here hx rfl (hb hby at_140) rfl) ?_
        refine OGets.step (fun _ => XS.iconst X550.here hx rfl (hb hby at_142)) ?_
        refine OGets.step (fun _ => XS.icmpYes X550.here hx rfl (pc0 := 143) (pc' := 164) rfl (hb hby at_143) rfl (feq (by rw [hc46_545]; decide : ¬ (ln = (2 : Int32)))).2 (by decide) (by decide)) ?_
        show OGets p e below _ (T550.setTop (mkF m 164 #[.val (.int p0), .val (.int p1), .val (.int p2), .val (.int p3), .val (.int ln), .val (.int c533), .val (.int c534), .val (.int c535), .val (.ref b546), .unset] []))
        refine OGets.step (fun _ => XS.iconst X550.here hx rfl (hb hby at_164)) ?_
        refine OGets.step (fun _ => XS.istore X550.here hx rfl (hb hby at_165) rfl (l' := #[.val (.int p0), .val (.int p1), .val (.int p2), .val (.int p3), .val (.int ln), .val (.int c533), .val (.int c534), .val (.int c535), .val (.ref b546), .val (.int (0 : Int32))]) rfl) ?_
        refine OGets.step (fun _ => XS.aload X550.here hx rfl (hb hby at_167) rfl rfl) ?_
        have R554 : CHr Z EL s.vm h0 s.vm T550.heap := CHr.ext (by rw [← hZh]; exact O550q.2) hCH
        show OGets p e below _ (T550.setTop (mkF m 169 #[.val (.int p0), .val (.int p1), .val (.int p2), .val (.int p3), .val (.int ln), .val (.int c533), .val (.int c534), .val (.int c535), .val (.ref b546), .val (.int (0 : Int32))] [(.ref b546)]))
        have Xw555 : Stand p l e _ (s.setVm s.vm) m #[(.int p0), (.int p1), (.int p2), (.int p3)] below meth c T550 _ _ _ := X550
        obtain ⟨_, _, ⟨T555, L555, k555, n555⟩, -, X555', S555', hgr555, ⟨Lc555, hQ555, l555, y555, z555, hC555⟩, st555⟩ := callSS Xw555 hx (y := (⟨"com/example/hermod/hermod/PercentEncoding", "isDotSegment", "(Ljava/lang/String;)Z"⟩ : MethodName)) hown (mvT hZ (hw _ (List.mem_of_getElem? (i := 28) rfl))) (mvT hZ (hw _ (List.mem_of_getElem? (i := 29) rfl))) (mvT hZ (hw _ (List.mem_of_getElem? (i := 30) rfl))) (mvT hZ (hw _ (List.mem_of_getElem? (i := 31) rfl))) (by decide) (backOfSH (EL := EL) (W := 0) (rm_idu l Z a0 hw [] b546 b550 G EL T550.heap n0 _ Z550 (S0.ext O550q.2) hG hm91 hm97 hEL V550v.read) hZ (hw _ (List.mem_of_getElem? (i := 31) rfl)) (hw _ (List.mem_of_getElem? (i := 30) rfl)) (by decide) (by decide) hEL R554.1) (g := (mkF m 169 #[.val (.int p0), .val (.int p1), .val (.int p2), .val (.int p3), .val (.int ln), .val (.int c533), .val (.int c534), .val (.int c535), .val (.ref b546), .val (.int (0 : Int32))] [(.ref b546)])) rfl (by rw [hml]; rfl) (argsL := [(.ref b546)]) (rest := []) (lenOf pd_17 rfl) rfl (by show 2 * 0 + _ ≤ _; exact Nat.le_of_eq rfl) (hb hby at_169) (fun _ _ => ⟨rfl, rfl, Nat.le_of_ble_eq_true rfl, Nat.le_of_ble_eq_true rfl⟩)
        dsimp only [Pt.U, Pt.locs, Pt.cells, Pt.slots] at X555' S555' hgr555 l555 y555 z555 st555 hQ555 hC555
        rw [l555, y555, z555] at X555'
        have X555 : Stand p l e _ (s.setVm T555.vm) m #[(.int p0), (.int p1), (.int p2), (.int p3)] below meth c T555 _ _ _ := X555'
        have S555 : s.Since T555.vm T555.heap.size := S555'
        have hZ555 : Z.Warmed39 (s.setVm T555.vm).vm := State.Warmed39.trans (t := (s.setVm s.vm)) hZ S555'.1
        have hown555 : (s.setVm T555.vm).vm.findClass "com/example/hermod/hermod/PercentEncodingIsDotSegmentPinLaw" = some m.cls := by rw [show (s.setVm T555.vm).vm = T555.vm from rfl, S555'.1.alike.findClass]; exact hown
        obtain ⟨rfl, rfl, E555⟩ := hQ555
        have N555 := Fr.app N550 (Fr.nil n0)
        have R555 : CHr Z EL s.vm h0 T555.vm T555.heap := R554.trans hC555
        refine OGets.after st555 ?_
        refine OGets.step (fun _ => XS.iload X555.here hx rfl (hb hby at_172) rfl) ?_
        refine OGets.step (fun _ => XS.icmpNo X555.here hx rfl (hb hby at_174) rfl (teq (rfl : (0 : Int32) = (0 : Int32))).2) ?_
        refine OGets.step (fun _ => XS.iconst X555.here hx rfl (hb hby at_177)) ?_
        refine OGets.step (fun _ => XS.goto X555.here hx rfl (pc0 := 178) (pc' := 182) rfl (hb hby at_178) (by decide) (by decide)) ?_
        refine OGets.retNW X555 hx hlk (t := .boolean) Bd.returns (by simp) (hb hby at_182) S555 (Nat.le_refl _) (by rw [hh]; exact R555.trans (CHv.at X555 hZ555 hEL R555.1)) (Nat.le_of_ble_eq_true rfl) (Nat.le_of_ble_eq_true rfl) ?_
        exact ⟨rfl, N555⟩
      · show OGets p e below _ (T548.setTop (mkF m 61 #[.val (.int p0), .val (.int p1), .val (.int p2), .val (.int p3), .val (.int ln), .val (.int c533), .val (.int c534), .val (.int c535), .unset, .unset] [(.ref b547), (.ref b546), (.ref b546)]))
        have V557_ : OView Z _ h548 (((b546, Sum.inl ("java/lang/String", ns_String, [.null, (.int (0 : Int32))])) : Addr × OObj) :: ((b547, Sum.inr (.char, [(.int c533)])) : Addr × OObj) :: []) := (V548.bring 1 rfl)
        obtain ⟨_, _, ⟨T557, L557, k557, n557⟩, -, X557, ⟨Lc557, hQ557, l557, y557, z557⟩, st557⟩ := X548.specialBack hx (y := (⟨"java/lang/String", "<init>", "([C)V"⟩ : MethodName)) rfl hown (mvT hZ (hw _ (List.mem_of_getElem? (i := 10) rfl))) (mvT hZ (hw _ (List.mem_of_getElem? (i := 11) rfl))) (mvT hZ (hw _ (List.mem_of_getElem? (i := 12) rfl))) (by decide) (backOf (W := 1) (rm_i1_11 l Z a0 hw [] b546 b547 G c533 h548 n0 _ Z548 S0 hG SA SH SL hu549 V557_ O548) hZ (hw _ (List.mem_of_getElem? (i := 12) rfl)) (hw _ (List.mem_of_getElem? (i := 8) rfl)) (by decide) (by decide)) (g := (mkF m 61 #[.val (.int p0), .val (.int p1), .val (.int p2), .val (.int p3), .val (.int ln), .val (.int c533), .val (.int c534), .val (.int c535), .unset, .unset] [(.ref b547), (.ref b546), (.ref b546)])) rfl (by rw [hml]; rfl) (Steps.refl _) (a := b546) (argsL := [(.ref b547)]) (rest := [(.ref b546)]) (lenOf pd_16 rfl) rfl (by show 2 * 0 + _ ≤ _; exact Nat.le_of_eq rfl) (hb hby at_61) (fun _ _ => ⟨rfl, e548, Nat.le_of_ble_eq_true rfl, Nat.le_of_ble_eq_true rfl⟩)
        dsimp only [Pt.U, Pt.locs, Pt.cells, Pt.slots] at X557 l557 y557 z557 st557 hQ557
        rw [l557, y557, z557] at X557
        obtain ⟨rfl, N557q, b557, V557, O557q⟩ := hQ557
        have N557 := Fr.app N548 N557q
        have V557v : OView Z n0 T557.heap (((b546, Sum.inl ("java/lang/String", ns_String, [(.ref b557), (.int (0 : Int32))])) : Addr × OObj) :: ((b557, Sum.inr (.byte, [(.int (yb c533))])) : Addr × OObj) :: ((b547, Sum.inr (.char, [(.int c533)])) : Addr × OObj) :: []) := V557
        have Z557 : n0 ≤ T557.heap.size := V557v.big 0 rfl
        refine OGets.after st557 ?_
        refine OGets.step (fun _ => XS.astore X557.here hx rfl (hb hby at_64) rfl rfl (l' := #[.val (.int p0), .val (.int p1), .val (.int p2), .val (.int p3), .val (.int ln), .val (.int c533), .val (.int c534), .val (.int c535), .val (.ref b546), .unset]) rfl) ?_
        refine OGets.step (fun _ => XS.goto X557.here hx rfl (pc0 := 66) (pc' := 127) rfl (hb hby at_66) (by decide) (by decide)) ?_
        refine OGets.step (fun _ => XS.iload X557.here hx rfl (hb hby at_127) rfl) ?_
        refine OGets.step (fun _ => XS.iconst X557.here hx rfl (hb hby at_129)) ?_
        refine OGets.step (fun _ => XS.icmpNo X557.here hx rfl (hb hby at_130) rfl (teq (hc46_545 : ln = (1 : Int32))).2) ?_
        show OGets p e below _ (T557.setTop (mkF m 133 #[.val (.int p0), .val (.int p1), .val (.int p2), .val (.int p3), .val (.int ln), .val (.int c533), .val (.int c534), .val (.int c535), .val (.ref b546), .unset] []))
        refine OGets.step (fun _ => XS.iload X557.here hx rfl (hb hby at_133) rfl) ?_
        refine OGets.step (fun _ => XS.bipush X557.here hx rfl (hb hby at_135)) ?_
        by_cases hc137_559 : c533 = (46 : Int32)
        · refine OGets.step (fun _ => XS.icmpYes X557.here hx rfl (pc0 := 137) (pc' := 160) rfl (hb hby at_137) rfl (teq hc137_559).1 (by decide) (by decide)) ?_
          show OGets p e below _ (T557.setTop (mkF m 160 #[.val (.int p0), .val (.int p1), .val (.int p2), .val (.int p3), .val (.int ln), .val (.int c533), .val (.int c534), .val (.int c535), .val (.ref b546), .unset] []))
          refine OGets.step (fun _ => XS.iconst X557.here hx rfl (hb hby at_160)) ?_
          refine OGets.step (fun _ => XS.goto X557.here hx rfl (pc0 := 161) (pc' := 165) rfl (hb hby at_161) (by decide) (by decide)) ?_
          refine OGets.step (fun _ => XS.istore X557.here hx rfl (hb hby at_165) rfl (l' := #[.val (.int p0), .val (.int p1), .val (.int p2), .val (.int p3), .val (.int ln), .val (.int c533), .val (.int c534), .val (.int c535), .val (.ref b546), .val (.int (1 : Int32))]) rfl) ?_
          refine OGets.step (fun _ => XS.aload X557.here hx rfl (hb hby at_167) rfl rfl) ?_
          have R560 : CHr Z EL s.vm h0 s.vm T557.heap := CHr.ext (by rw [← hZh]; exact O557q.2) hCH
          show OGets p e below _ (T557.setTop (mkF m 169 #[.val (.int p0), .val (.int p1), .val (.int p2), .val (.int p3), .val (.int ln), .val (.int c533), .val (.int c534), .val (.int c535), .val (.ref b546), .val (.int (1 : Int32))] [(.ref b546)]))
          have Xw561 : Stand p l e _ (s.setVm s.vm) m #[(.int p0), (.int p1), (.int p2), (.int p3)] below meth c T557 _ _ _ := X557
          obtain ⟨_, _, ⟨T561, L561, k561, n561⟩, -, X561', S561', hgr561, ⟨Lc561, hQ561, l561, y561, z561, hC561⟩, st561⟩ := callSS Xw561 hx (y := (⟨"com/example/hermod/hermod/PercentEncoding", "isDotSegment", "(Ljava/lang/String;)Z"⟩ : MethodName)) hown (mvT hZ (hw _ (List.mem_of_getElem? (i := 28) rfl))) (mvT hZ (hw _ (List.mem_of_getElem? (i := 29) rfl))) (mvT hZ (hw _ (List.mem_of_getElem? (i := 30) rfl))) (mvT hZ (hw _ (List.mem_of_getElem? (i := 31) rfl))) (by decide) (backOfSH (EL := EL) (W := 0) (rm_id1 l Z a0 hw [] b546 b557 G (yb c533) EL T557.heap n0 _ Z557 (S0.ext O557q.2) hG hm91 hm97 hEL V557v.read) hZ (hw _ (List.mem_of_getElem? (i := 31) rfl)) (hw _ (List.mem_of_getElem? (i := 30) rfl)) (by decide) (by decide) hEL R560.1) (g := (mkF m 169 #[.val (.int p0), .val (.int p1), .val (.int p2), .val (.int p3), .val (.int ln), .val (.int c533), .val (.int c534), .val (.int c535), .val (.ref b546), .val (.int (1 : Int32))] [(.ref b546)])) rfl (by rw [hml]; rfl) (argsL := [(.ref b546)]) (rest := []) (lenOf pd_17 rfl) rfl (by show 2 * 0 + _ ≤ _; exact Nat.le_of_eq rfl) (hb hby at_169) (fun _ _ => ⟨rfl, rfl, Nat.le_of_ble_eq_true rfl, Nat.le_of_ble_eq_true rfl⟩)
          dsimp only [Pt.U, Pt.locs, Pt.cells, Pt.slots] at X561' S561' hgr561 l561 y561 z561 st561 hQ561 hC561
          rw [l561, y561, z561] at X561'
          have X561 : Stand p l e _ (s.setVm T561.vm) m #[(.int p0), (.int p1), (.int p2), (.int p3)] below meth c T561 _ _ _ := X561'
          have S561 : s.Since T561.vm T561.heap.size := S561'
          have hZ561 : Z.Warmed39 (s.setVm T561.vm).vm := State.Warmed39.trans (t := (s.setVm s.vm)) hZ S561'.1
          have hown561 : (s.setVm T561.vm).vm.findClass "com/example/hermod/hermod/PercentEncodingIsDotSegmentPinLaw" = some m.cls := by rw [show (s.setVm T561.vm).vm = T561.vm from rfl, S561'.1.alike.findClass]; exact hown
          obtain ⟨rfl, rfl, E561⟩ := hQ561
          have N561 := Fr.app N557 (Fr.nil n0)
          have R561 : CHr Z EL s.vm h0 T561.vm T561.heap := R560.trans hC561
          refine OGets.after st561 ?_
          refine OGets.step (fun _ => XS.iload X561.here hx rfl (hb hby at_172) rfl) ?_
          refine OGets.step (fun _ => XS.icmpNo X561.here hx rfl (hb hby at_174) rfl (teq ((own_d1 w533 hu549).1 hc137_559 : (f_id1 (yb c533)) = (1 : Int32))).2) ?_
          refine OGets.step (fun _ => XS.iconst X561.here hx rfl (hb hby at_177)) ?_
          refine OGets.step (fun _ => XS.goto X561.here hx rfl (pc0 := 178) (pc' := 182) rfl (hb hby at_178) (by decide) (by decide)) ?_
          refine OGets.retNW X561 hx hlk (t := .boolean) Bd.returns (by simp) (hb hby at_182) S561 (Nat.le_refl _) (by rw [hh]; exact R561.trans (CHv.at X561 hZ561 hEL R561.1)) (Nat.le_of_ble_eq_true rfl) (Nat.le_of_ble_eq_true rfl) ?_
          exact ⟨rfl, N561⟩
        · refine OGets.step (fun _ => XS.icmpNo X557.here hx rfl (hb hby at_137) rfl (feq hc137_559).1) ?_
          show OGets p e below _ (T557.setTop (mkF m 140 #[.val (.int p0), .val (.int p1), .val (.int p2), .val (.int p3), .val (.int ln), .val (.int c533), .val (.int c534), .val (.int c535), .val (.ref b546), .unset] []))
          refine OGets.step (fun _ => XS.iload X557.here hx rfl (hb hby at_140) rfl) ?_
          refine OGets.step (fun _ => XS.iconst X557.here hx rfl (hb hby at_142)) ?_
          refine OGets.step (fun _ => XS.icmpYes X557.here hx rfl (pc0 := 143) (pc' := 164) rfl (hb hby at_143) rfl (feq (by rw [hc46_545]; decide : ¬ (ln = (2 : Int32)))).2 (by decide) (by decide)) ?_
          refine OGets.step (fun _ => XS.iconst X557.here hx rfl (hb hby at_164)) ?_
          refine OGets.step (fun _ => XS.istore X557.here hx rfl (hb hby at_165) rfl (l' := #[.val (.int p0), .val (.int p1), .val (.int p2), .val (.int p3), .val (.int ln), .val (.int c533), .val (.int c534), .val (.int c535), .val (.ref b546), .val (.int (0 : Int32))]) rfl) ?_
          refine OGets.step (fun _ => XS.aload X557.here hx rfl (hb hby at_167) rfl rfl) ?_
          have R564 : CHr Z EL s.vm h0 s.vm T557.heap := CHr.ext (by rw [← hZh]; exact O557q.2) hCH
          show OGets p e below _ (T557.setTop (mkF m 169 #[.val (.int p0), .val (.int p1), .val (.int p2), .val (.int p3), .val (.int ln), .val (.int c533), .val (.int c534), .val (.int c535), .val (.ref b546), .val (.int (0 : Int32))] [(.ref b546)]))
          have Xw565 : Stand p l e _ (s.setVm s.vm) m #[(.int p0), (.int p1), (.int p2), (.int p3)] below meth c T557 _ _ _ := X557
          obtain ⟨_, _, ⟨T565, L565, k565, n565⟩, -, X565', S565', hgr565, ⟨Lc565, hQ565, l565, y565, z565, hC565⟩, st565⟩ := callSS Xw565 hx (y := (⟨"com/example/hermod/hermod/PercentEncoding", "isDotSegment", "(Ljava/lang/String;)Z"⟩ : MethodName)) hown (mvT hZ (hw _ (List.mem_of_getElem? (i := 28) rfl))) (mvT hZ (hw _ (List.mem_of_getElem? (i := 29) rfl))) (mvT hZ (hw _ (List.mem_of_getElem? (i := 30) rfl))) (mvT hZ (hw _ (List.mem_of_getElem? (i := 31) rfl))) (by decide) (backOfSH (EL := EL) (W := 0) (rm_id1 l Z a0 hw [] b546 b557 G (yb c533) EL T557.heap n0 _ Z557 (S0.ext O557q.2) hG hm91 hm97 hEL V557v.read) hZ (hw _ (List.mem_of_getElem? (i := 31) rfl)) (hw _ (List.mem_of_getElem? (i := 30) rfl)) (by decide) (by decide) hEL R564.1) (g := (mkF m 169 #[.val (.int p0), .val (.int p1), .val (.int p2), .val (.int p3), .val (.int ln), .val (.int c533), .val (.int c534), .val (.int c535), .val (.ref b546), .val (.int (0 : Int32))] [(.ref b546)])) rfl (by rw [hml]; rfl) (argsL := [(.ref b546)]) (rest := []) (lenOf pd_17 rfl) rfl (by show 2 * 0 + _ ≤ _; exact Nat.le_of_eq rfl) (hb hby at_169) (fun _ _ => ⟨rfl, rfl, Nat.le_of_ble_eq_true rfl, Nat.le_of_ble_eq_true rfl⟩)
          dsimp only [Pt.U, Pt.locs, Pt.cells, Pt.slots] at X565' S565' hgr565 l565 y565 z565 st565 hQ565 hC565
          rw [l565, y565, z565] at X565'
          have X565 : Stand p l e _ (s.setVm T565.vm) m #[(.int p0), (.int p1), (.int p2), (.int p3)] below meth c T565 _ _ _ := X565'
          have S565 : s.Since T565.vm T565.heap.size := S565'
          have hZ565 : Z.Warmed39 (s.setVm T565.vm).vm := State.Warmed39.trans (t := (s.setVm s.vm)) hZ S565'.1
          have hown565 : (s.setVm T565.vm).vm.findClass "com/example/hermod/hermod/PercentEncodingIsDotSegmentPinLaw" = some m.cls := by rw [show (s.setVm T565.vm).vm = T565.vm from rfl, S565'.1.alike.findClass]; exact hown
          obtain ⟨rfl, rfl, E565⟩ := hQ565
          have N565 := Fr.app N557 (Fr.nil n0)
          have R565 : CHr Z EL s.vm h0 T565.vm T565.heap := R564.trans hC565
          refine OGets.after st565 ?_
          refine OGets.step (fun _ => XS.iload X565.here hx rfl (hb hby at_172) rfl) ?_
          refine OGets.step (fun _ => XS.icmpNo X565.here hx rfl (hb hby at_174) rfl (teq ((own_d1 w533 hu549).2 hc137_559 : (f_id1 (yb c533)) = (0 : Int32))).2) ?_
          refine OGets.step (fun _ => XS.iconst X565.here hx rfl (hb hby at_177)) ?_
          refine OGets.step (fun _ => XS.goto X565.here hx rfl (pc0 := 178) (pc' := 182) rfl (hb hby at_178) (by decide) (by decide)) ?_
          refine OGets.retNW X565 hx hlk (t := .boolean) Bd.returns (by simp) (hb hby at_182) S565 (Nat.le_refl _) (by rw [hh]; exact R565.trans (CHv.at X565 hZ565 hEL R565.1)) (Nat.le_of_ble_eq_true rfl) (Nat.le_of_ble_eq_true rfl) ?_
          exact ⟨rfl, N565⟩
    · refine OGets.step (fun _ => XS.icmpYes X535.here hx rfl (pc0 := 46) (pc' := 69) rfl (hb hby at_46) rfl (feq hc46_545).2 (by decide) (by decide)) ?_
      show OGets p e below _ (T535.setTop (mkF m 69 #[.val (.int p0), .val (.int p1), .val (.int p2), .val (.int p3), .val (.int ln), .val (.int c533), .val (.int c534), .val (.int c535), .unset, .unset] []))
      refine OGets.step (fun _ => XS.iload X535.here hx rfl (hb hby at_69) rfl) ?_
      refine OGets.step (fun _ => XS.iconst X535.here hx rfl (hb hby at_71)) ?_
      by_cases hc72_567 : ln = (2 : Int32)
      · refine OGets.step (fun _ => XS.icmpNo X535.here hx rfl (hb hby at_72) rfl (teq hc72_567).2) ?_
        show OGets p e below _ (T535.setTop (mkF m 75 #[.val (.int p0), .val (.int p1), .val (.int p2), .val (.int p3), .val (.int ln), .val (.int c533), .val (.int c534), .val (.int c535), .unset, .unset] []))
        obtain ⟨T568, h568, X568, e568, E568, A568, D568, -, st568⟩ := newO X535 hx hZ hown (hw _ (List.mem_of_getElem? (i := 6) rfl)) (hw _ (List.mem_of_getElem? (i := 7) rfl)) (hw _ (List.mem_of_getElem? (i := 8) rfl)) e535 (g := (mkF m 75 #[.val (.int p0), .val (.int p1), .val (.int p2), .val (.int p3), .val (.int ln), .val (.int c533), .val (.int c534), .val (.int c535), .unset, .unset] [])) rfl (hb hby at_75) (by decide) (by decide)
        have V568' := V0.newObj (ns := ns_String) (vs := [.null, (.int (0 : Int32))]) Z0 E568 A568 D568 (lay_ns_String hw) (by decide) (by decide)
        have Z568 : n0 ≤ h568.size := Nat.le_trans Z0 E568.1
        obtain ⟨b568, g568⟩ : ∃ z, z = h0.size := ⟨_, rfl⟩
        rw [← g568] at V568' st568
        have V568 : OView Z n0 h568 (((b568, Sum.inl ("java/lang/String", ns_String, [.null, (.int (0 : Int32))])) : Addr × OObj) :: []) := V568'
        have O568 := O0.ext E568
        refine OGets.step st568 ?_
        refine OGets.step (fun _ => XS.dup X568.here hx rfl (hb hby at_78) rfl rfl) ?_
        refine OGets.step (fun _ => XS.iconst X568.here hx rfl (hb hby at_79)) ?_
        obtain ⟨T569, h569, k569, X569, e569, E569, A569, st569⟩ := newP X568 hx hZ (hw _ (List.mem_of_getElem? (i := 9) rfl)) e568 (g := (mkF m 80 #[.val (.int p0), .val (.int p1), .val (.int p2), .val (.int p3), .val (.int ln), .val (.int c533), .val (.int c534), .val (.int c535), .unset, .unset] [(.int (2 : Int32)), (.ref b568), (.ref b568)])) rfl (hb hby at_80) rfl (by decide) (cap := 2) (by decide) (by decide) (by decide) (by decide)
        have V569' := V568.newArr Z568 E569 A569 2 rfl
        have Z569 : n0 ≤ h569.size := Nat.le_trans Z568 E569.1
        obtain ⟨b569, g569⟩ : ∃ z, z = h568.size := ⟨_, rfl⟩
        rw [← g569] at V569' st569
        have V569 : OView Z n0 h569 (((b569, Sum.inr (.char, [(.int (0 : Int32)), (.int (0 : Int32))])) : Addr × OObj) :: ((b568, Sum.inl ("java/lang/String", ns_String, [.null, (.int (0 : Int32))])) : Addr × OObj) :: []) := V569'
        have O569 := O568.ext E569
        refine OGets.step st569 ?_
        refine OGets.step (fun _ => XS.dup X569.here hx rfl (hb hby at_82) rfl rfl) ?_
        refine OGets.step (fun _ => XS.iconst X569.here hx rfl (hb hby at_83)) ?_
        refine OGets.step (fun _ => XS.iload X569.here hx rfl (hb hby at_84) rfl) ?_
        obtain ⟨cl570, Ar570, S570⟩ := V569.arr 0 rfl
        obtain ⟨T570, h570, X570, e570, W570', st570⟩ := stC X569 hx hZ e569 Ar570 (j := (0 : Int32)) (own_inb S570 0 (by decide) (Nat.le_of_ble_eq_true rfl)) (g := (mkF m 86 #[.val (.int p0), .val (.int p1), .val (.int p2), .val (.int p3), .val (.int ln), .val (.int c533), .val (.int c534), .val (.int c535), .unset, .unset] [(.int c533), (.int (0 : Int32)), (.ref b569), (.ref b569), (.ref b568), (.ref b568)])) rfl rfl (hb hby at_86)
        rw [own_narC w533] at W570'
        have W570 := own_wr (vs := []) 0 (by decide) W570'
        have V570 : OView Z n0 h570 (((b569, Sum.inr (.char, [(.int c533), (.int (0 : Int32))])) : Addr × OObj) :: ((b568, Sum.inl ("java/lang/String", ns_String, [.null, (.int (0 : Int32))])) : Addr × OObj) :: []) := V569.putA 0 rfl W570
        have N570 := Fr.snoc X570 N535 (V569.old 0 rfl)
        have Z570 : n0 ≤ h570.size := by rw [W570.size]; exact Z569
        have O570 := O569.wr W570 (V569.old 0 rfl)
        refine OGets.step st570 ?_
        refine OGets.step (fun _ => XS.dup X570.here hx rfl (hb hby at_87) rfl rfl) ?_
        refine OGets.step (fun _ => XS.iconst X570.here hx rfl (hb hby at_88)) ?_
        refine OGets.step (fun _ => XS.iload X570.here hx rfl (hb hby at_89) rfl) ?_
        obtain ⟨cl571, Ar571, S571⟩ := V570.arr 0 rfl
        obtain ⟨T571, h571, X571, e571, W571', st571⟩ := stC X570 hx hZ e570 Ar571 (j := (1 : Int32)) (own_inb S571 1 (by decide) (Nat.le_of_ble_eq_true rfl)) (g := (mkF m 91 #[.val (.int p0), .val (.int p1), .val (.int p2), .val (.int p3), .val (.int ln), .val (.int c533), .val (.int c534), .val (.int c535), .unset, .unset] [(.int c534), (.int (1 : Int32)), (.ref b569), (.ref b569), (.ref b568), (.ref b568)])) rfl rfl (hb hby at_91)
        rw [own_narC w534] at W571'
        have W571 := own_wr (vs := []) 1 (by decide) W571'
        have V571 : OView Z n0 h571 (((b569, Sum.inr (.char, [(.int c533), (.int c534)])) : Addr × OObj) :: ((b568, Sum.inl ("java/lang/String", ns_String, [.null, (.int (0 : Int32))])) : Addr × OObj) :: []) := V570.putA 0 rfl W571
        have N571 := Fr.snoc X571 N570 (V570.old 0 rfl)
        have Z571 : n0 ≤ h571.size := by rw [W571.size]; exact Z570
        have O571 := O570.wr W571 (V570.old 0 rfl)
        refine OGets.step st571 ?_
        by_cases hu572 : (255 : Int32) < c533
        · show OGets p e below _ (T571.setTop (mkF m 92 #[.val (.int p0), .val (.int p1), .val (.int p2), .val (.int p3), .val (.int ln), .val (.int c533), .val (.int c534), .val (.int c535), .unset, .unset] [(.ref b569), (.ref b568), (.ref b568)]))
          have V573_ : OView Z _ h571 (((b568, Sum.inl ("java/lang/String", ns_String, [.null, (.int (0 : Int32))])) : Addr × OObj) :: ((b569, Sum.inr (.char, [(.int c533), (.int c534)])) : Addr × OObj) :: []) := (V571.bring 1 rfl)
          obtain ⟨_, _, ⟨T573, L573, k573, n573⟩, -, X573, ⟨Lc573, hQ573, l573, y573, z573⟩, st573⟩ := X571.specialBack hx (y := (⟨"java/lang/String", "<init>", "([C)V"⟩ : MethodName)) rfl hown (mvT hZ (hw _ (List.mem_of_getElem? (i := 10) rfl))) (mvT hZ (hw _ (List.mem_of_getElem? (i := 11) rfl))) (mvT hZ (hw _ (List.mem_of_getElem? (i := 12) rfl))) (by decide) (backOf (W := 1) (rm_i1_20 l Z a0 hw [] b568 b569 G c533 c534 h571 n0 _ Z571 S0 hG SA SH SL hu572 w533 V573_ O571) hZ (hw _ (List.mem_of_getElem? (i := 12) rfl)) (hw _ (List.mem_of_getElem? (i := 8) rfl)) (by decide) (by decide)) (g := (mkF m 92 #[.val (.int p0), .val (.int p1), .val (.int p2), .val (.int p3), .val (.int ln), .val (.int c533), .val (.int c534), .val (.int c535), .unset, .unset] [(.ref b569), (.ref b568), (.ref b568)])) rfl (by rw [hml]; rfl) (Steps.refl _) (a := b568) (argsL := [(.ref b569)]) (rest := [(.ref b568)]) (lenOf pd_16 rfl) rfl (by show 2 * 0 + _ ≤ _; exact Nat.le_of_eq rfl) (hb hby at_92) (fun _ _ => ⟨rfl, e571, Nat.le_of_ble_eq_true rfl, Nat.le_of_ble_eq_true rfl⟩)
          dsimp only [Pt.U, Pt.locs, Pt.cells, Pt.slots] at X573 l573 y573 z573 st573 hQ573
          rw [l573, y573, z573] at X573
          obtain ⟨rfl, N573q, b573, V573, O573q⟩ := hQ573
          have N573 := Fr.app N571 N573q
          have V573v : OView Z n0 T573.heap (((b568, Sum.inl ("java/lang/String", ns_String, [(.ref b573), (.int (1 : Int32))])) : Addr × OObj) :: ((b573, Sum.inr (.byte, [(.int (hb' c533)), (.int (lb' c533)), (.int (hb' c534)), (.int (lb' c534))])) : Addr × OObj) :: ((b569, Sum.inr (.char, [(.int c533), (.int c534)])) : Addr × OObj) :: []) := V573
          have Z573 : n0 ≤ T573.heap.size := V573v.big 0 rfl
          refine OGets.after st573 ?_
          refine OGets.step (fun _ => XS.astore X573.here hx rfl (hb hby at_95) rfl rfl (l' := #[.val (.int p0), .val (.int p1), .val (.int p2), .val (.int p3), .val (.int ln), .val (.int c533), .val (.int c534), .val (.int c535), .val (.ref b568), .unset]) rfl) ?_
          refine OGets.step (fun _ => XS.goto X573.here hx rfl (pc0 := 97) (pc' := 127) rfl (hb hby at_97) (by decide) (by decide)) ?_
          refine OGets.step (fun _ => XS.iload X573.here hx rfl (hb hby at_127) rfl) ?_
          refine OGets.step (fun _ => XS.iconst X573.here hx rfl (hb hby at_129)) ?_
          refine OGets.step (fun _ => XS.icmpYes X573.here hx rfl (pc0 := 130) (pc' := 140) rfl (hb hby at_130) rfl (feq (by rw [hc72_567]; decide : ¬ (ln = (1 : Int32)))).2 (by decide) (by decide)) ?_
          show OGets p e below _ (T573.setTop (mkF m 140 #[.val (.int p0), .val (.int p1), .val (.int p2), .val (.int p3), .val (.int ln), .val (.int c533), .val (.int c534), .val (.int c535), .val (.ref b568), .unset] []))
          refine OGets.step (fun _ => XS.iload X573.here hx rfl (hb hby at_140) rfl) ?_
          refine OGets.step (fun _ => XS.iconst X573.here hx rfl (hb hby at_142)) ?_
          refine OGets.step (fun _ => XS.icmpNo X573.here hx rfl (hb hby at_143) rfl (teq (hc72_567 : ln = (2 : Int32))).2) ?_
          refine OGets.step (fun _ => XS.iload X573.here hx rfl (hb hby at_146) rfl) ?_
          refine OGets.step (fun _ => XS.bipush X573.here hx rfl (hb hby at_148)) ?_
          refine OGets.step (fun _ => XS.icmpYes X573.here hx rfl (pc0 := 150) (pc' := 164) rfl (hb hby at_150) rfl (feq (own_46 hu572 : ¬ (c533 = (46 : Int32)))).2 (by decide) (by decide)) ?_
          show OGets p e below _ (T573.setTop (mkF m 164 #[.val (.int p0), .val (.int p1), .val (.int p2), .val (.int p3), .val (.int ln), .val (.int c533), .val (.int c534), .val (.int c535), .val (.ref b568), .unset] []))
          refine OGets.step (fun _ => XS.iconst X573.here hx rfl (hb hby at_164)) ?_
          refine OGets.step (fun _ => XS.istore X573.here hx rfl (hb hby at_165) rfl (l' := #[.val (.int p0), .val (.int p1), .val (.int p2), .val (.int p3), .val (.int ln), .val (.int c533), .val (.int c534), .val (.int c535), .val (.ref b568), .val (.int (0 : Int32))]) rfl) ?_
          refine OGets.step (fun _ => XS.aload X573.here hx rfl (hb hby at_167) rfl rfl) ?_
          have R577 : CHr Z EL s.vm h0 s.vm T573.heap := CHr.ext (by rw [← hZh]; exact O573q.2) hCH
          show OGets p e below _ (T573.setTop (mkF m 169 #[.val (.int p0), .val (.int p1), .val (.int p2), .val (.int p3), .val (.int ln), .val (.int c533), .val (.int c534), .val (.int c535), .val (.ref b568), .val (.int (0 : Int32))] [(.ref b568)]))
          have Xw578 : Stand p l e _ (s.setVm s.vm) m #[(.int p0), (.int p1), (.int p2), (.int p3)] below meth c T573 _ _ _ := X573
          obtain ⟨_, _, ⟨T578, L578, k578, n578⟩, -, X578', S578', hgr578, ⟨Lc578, hQ578, l578, y578, z578, hC578⟩, st578⟩ := callSS Xw578 hx (y := (⟨"com/example/hermod/hermod/PercentEncoding", "isDotSegment", "(Ljava/lang/String;)Z"⟩ : MethodName)) hown (mvT hZ (hw _ (List.mem_of_getElem? (i := 28) rfl))) (mvT hZ (hw _ (List.mem_of_getElem? (i := 29) rfl))) (mvT hZ (hw _ (List.mem_of_getElem? (i := 30) rfl))) (mvT hZ (hw _ (List.mem_of_getElem? (i := 31) rfl))) (by decide) (backOfSH (EL := EL) (W := 0) (rm_idu l Z a0 hw [] b568 b573 G EL T573.heap n0 _ Z573 (S0.ext O573q.2) hG hm91 hm97 hEL V573v.read) hZ (hw _ (List.mem_of_getElem? (i := 31) rfl)) (hw _ (List.mem_of_getElem? (i := 30) rfl)) (by decide) (by decide) hEL R577.1) (g := (mkF m 169 #[.val (.int p0), .val (.int p1), .val (.int p2), .val (.int p3), .val (.int ln), .val (.int c533), .val (.int c534), .val (.int c535), .val (.ref b568), .val (.int (0 : Int32))] [(.ref b568)])) rfl (by rw [hml]; rfl) (argsL := [(.ref b568)]) (rest := []) (lenOf pd_17 rfl) rfl (by show 2 * 0 + _ ≤ _; exact Nat.le_of_eq rfl) (hb hby at_169) (fun _ _ => ⟨rfl, rfl, Nat.le_of_ble_eq_true rfl, Nat.le_of_ble_eq_true rfl⟩)
          dsimp only [Pt.U, Pt.locs, Pt.cells, Pt.slots] at X578' S578' hgr578 l578 y578 z578 st578 hQ578 hC578
          rw [l578, y578, z578] at X578'
          have X578 : Stand p l e _ (s.setVm T578.vm) m #[(.int p0), (.int p1), (.int p2), (.int p3)] below meth c T578 _ _ _ := X578'
          have S578 : s.Since T578.vm T578.heap.size := S578'
          have hZ578 : Z.Warmed39 (s.setVm T578.vm).vm := State.Warmed39.trans (t := (s.setVm s.vm)) hZ S578'.1
          have hown578 : (s.setVm T578.vm).vm.findClass "com/example/hermod/hermod/PercentEncodingIsDotSegmentPinLaw" = some m.cls := by rw [show (s.setVm T578.vm).vm = T578.vm from rfl, S578'.1.alike.findClass]; exact hown
          obtain ⟨rfl, rfl, E578⟩ := hQ578
          have N578 := Fr.app N573 (Fr.nil n0)
          have R578 : CHr Z EL s.vm h0 T578.vm T578.heap := R577.trans hC578
          refine OGets.after st578 ?_
          refine OGets.step (fun _ => XS.iload X578.here hx rfl (hb hby at_172) rfl) ?_
          refine OGets.step (fun _ => XS.icmpNo X578.here hx rfl (hb hby at_174) rfl (teq (rfl : (0 : Int32) = (0 : Int32))).2) ?_
          refine OGets.step (fun _ => XS.iconst X578.here hx rfl (hb hby at_177)) ?_
          refine OGets.step (fun _ => XS.goto X578.here hx rfl (pc0 := 178) (pc' := 182) rfl (hb hby at_178) (by decide) (by decide)) ?_
          refine OGets.retNW X578 hx hlk (t := .boolean) Bd.returns (by simp) (hb hby at_182) S578 (Nat.le_refl _) (by rw [hh]; exact R578.trans (CHv.at X578 hZ578 hEL R578.1)) (Nat.le_of_ble_eq_true rfl) (Nat.le_of_ble_eq_true rfl) ?_
          exact ⟨rfl, N578⟩
        · by_cases hu580 : (255 : Int32) < c534
          · show OGets p e below _ (T571.setTop (mkF m 92 #[.val (.int p0), .val (.int p1), .val (.int p2), .val (.int p3), .val (.int ln), .val (.int c533), .val (.int c534), .val (.int c535), .unset, .unset] [(.ref b569), (.ref b568), (.ref b568)]))
            have V581_ : OView Z _ h571 (((b568, Sum.inl ("java/lang/String", ns_String, [.null, (.int (0 : Int32))])) : Addr × OObj) :: ((b569, Sum.inr (.char, [(.int c533), (.int c534)])) : Addr × OObj) :: []) := (V571.bring 1 rfl)
            obtain ⟨_, _, ⟨T581, L581, k581, n581⟩, -, X581, ⟨Lc581, hQ581, l581, y581, z581⟩, st581⟩ := X571.specialBack hx (y := (⟨"java/lang/String", "<init>", "([C)V"⟩ : MethodName)) rfl hown (mvT hZ (hw _ (List.mem_of_getElem? (i := 10) rfl))) (mvT hZ (hw _ (List.mem_of_getElem? (i := 11) rfl))) (mvT hZ (hw _ (List.mem_of_getElem? (i := 12) rfl))) (by decide) (backOf (W := 1) (rm_i1_21 l Z a0 hw [] b568 b569 G c533 c534 h571 n0 _ Z571 S0 hG SA SH SL hu572 hu580 w534 V581_ O571) hZ (hw _ (List.mem_of_getElem? (i := 12) rfl)) (hw _ (List.mem_of_getElem? (i := 8) rfl)) (by decide) (by decide)) (g := (mkF m 92 #[.val (.int p0), .val (.int p1), .val (.int p2), .val (.int p3), .val (.int ln), .val (.int c533), .val (.int c534), .val (.int c535), .unset, .unset] [(.ref b569), (.ref b568), (.ref b568)])) rfl (by rw [hml]; rfl) (Steps.refl _) (a := b568) (argsL := [(.ref b569)]) (rest := [(.ref b568)]) (lenOf pd_16 rfl) rfl (by show 2 * 0 + _ ≤ _; exact Nat.le_of_eq rfl) (hb hby at_92) (fun _ _ => ⟨rfl, e571, Nat.le_of_ble_eq_true rfl, Nat.le_of_ble_eq_true rfl⟩)
            dsimp only [Pt.U, Pt.locs, Pt.cells, Pt.slots] at X581 l581 y581 z581 st581 hQ581
            rw [l581, y581, z581] at X581
            obtain ⟨rfl, N581q, b581, V581, O581q⟩ := hQ581
            have N581 := Fr.app N571 N581q
            have V581v : OView Z n0 T581.heap (((b568, Sum.inl ("java/lang/String", ns_String, [(.ref b581), (.int (1 : Int32))])) : Addr × OObj) :: ((b581, Sum.inr (.byte, [(.int (hb' c533)), (.int (lb' c533)), (.int (hb' c534)), (.int (lb' c534))])) : Addr × OObj) :: ((b569, Sum.inr (.char, [(.int c533), (.int c534)])) : Addr × OObj) :: []) := V581
            have Z581 : n0 ≤ T581.heap.size := V581v.big 0 rfl
            refine OGets.after st581 ?_
            refine OGets.step (fun _ => XS.astore X581.here hx rfl (hb hby at_95) rfl rfl (l' := #[.val (.int p0), .val (.int p1), .val (.int p2), .val (.int p3), .val (.int ln), .val (.int c533), .val (.int c534), .val (.int c535), .val (.ref b568), .unset]) rfl) ?_
            refine OGets.step (fun _ => XS.goto X581.here hx rfl (pc0 := 97) (pc' := 127) rfl (hb hby at_97) (by decide) (by decide)) ?_
            refine OGets.step (fun _ => XS.iload X581.here hx rfl (hb hby at_127) rfl) ?_
            refine OGets.step (fun _ => XS.iconst X581.here hx rfl (hb hby at_129)) ?_
            refine OGets.step (fun _ => XS.icmpYes X581.here hx rfl (pc0 := 130) (pc' := 140) rfl (hb hby at_130) rfl (feq (by rw [hc72_567]; decide : ¬ (ln = (1 : Int32)))).2 (by decide) (by decide)) ?_
            show OGets p e below _ (T581.setTop (mkF m 140 #[.val (.int p0), .val (.int p1), .val (.int p2), .val (.int p3), .val (.int ln), .val (.int c533), .val (.int c534), .val (.int c535), .val (.ref b568), .unset] []))
            refine OGets.step (fun _ => XS.iload X581.here hx rfl (hb hby at_140) rfl) ?_
            refine OGets.step (fun _ => XS.iconst X581.here hx rfl (hb hby at_142)) ?_
            refine OGets.step (fun _ => XS.icmpNo X581.here hx rfl (hb hby at_143) rfl (teq (hc72_567 : ln = (2 : Int32))).2) ?_
            refine OGets.step (fun _ => XS.iload X581.here hx rfl (hb hby at_146) rfl) ?_
            refine OGets.step (fun _ => XS.bipush X581.here hx rfl (hb hby at_148)) ?_
            by_cases hc150_584 : c533 = (46 : Int32)
            · refine OGets.step (fun _ => XS.icmpNo X581.here hx rfl (hb hby at_150) rfl (teq hc150_584).2) ?_
              show OGets p e below _ (T581.setTop (mkF m 153 #[.val (.int p0), .val (.int p1), .val (.int p2), .val (.int p3), .val (.int ln), .val (.int c533), .val (.int c534), .val (.int c535), .val (.ref b568), .unset] []))
              refine OGets.step (fun _ => XS.iload X581.here hx rfl (hb hby at_153) rfl) ?_
              refine OGets.step (fun _ => XS.bipush X581.here hx rfl (hb hby at_155)) ?_
              refine OGets.step (fun _ => XS.icmpYes X581.here hx rfl (pc0 := 157) (pc' := 164) rfl (hb hby at_157) rfl (feq (own_46 hu580 : ¬ (c534 = (46 : Int32)))).2 (by decide) (by decide)) ?_
              refine OGets.step (fun _ => XS.iconst X581.here hx rfl (hb hby at_164)) ?_
              refine OGets.step (fun _ => XS.istore X581.here hx rfl (hb hby at_165) rfl (l' := #[.val (.int p0), .val (.int p1), .val (.int p2), .val (.int p3), .val (.int ln), .val (.int c533), .val (.int c534), .val (.int c535), .val (.ref b568), .val (.int (0 : Int32))]) rfl) ?_
              refine OGets.step (fun _ => XS.aload X581.here hx rfl (hb hby at_167) rfl rfl) ?_
              have R586 : CHr Z EL s.vm h0 s.vm T581.heap := CHr.ext (by rw [← hZh]; exact O581q.2) hCH
              show OGets p e below _ (T581.setTop (mkF m 169 #[.val (.int p0), .val (.int p1), .val (.int p2), .val (.int p3), .val (.int ln), .val (.int c533), .val (.int c534), .val (.int c535), .val (.ref b568), .val (.int (0 : Int32))] [(.ref b568)]))
              have Xw587 : Stand p l e _ (s.setVm s.vm) m #[(.int p0), (.int p1), (.int p2), (.int p3)] below meth c T581 _ _ _ := X581
              obtain ⟨_, _, ⟨T587, L587, k587, n587⟩, -, X587', S587', hgr587, ⟨Lc587, hQ587, l587, y587, z587, hC587⟩, st587⟩ := callSS Xw587 hx (y := (⟨"com/example/hermod/hermod/PercentEncoding", "isDotSegment", "(Ljava/lang/String;)Z"⟩ : MethodName)) hown (mvT hZ (hw _ (List.mem_of_getElem? (i := 28) rfl))) (mvT hZ (hw _ (List.mem_of_getElem? (i := 29) rfl))) (mvT hZ (hw _ (List.mem_of_getElem? (i := 30) rfl))) (mvT hZ (hw _ (List.mem_of_getElem? (i := 31) rfl))) (by decide) (backOfSH (EL := EL) (W := 0) (rm_idu l Z a0 hw [] b568 b581 G EL T581.heap n0 _ Z581 (S0.ext O581q.2) hG hm91 hm97 hEL V581v.read) hZ (hw _ (List.mem_of_getElem? (i := 31) rfl)) (hw _ (List.mem_of_getElem? (i := 30) rfl)) (by decide) (by decide) hEL R586.1) (g := (mkF m 169 #[.val (.int p0), .val (.int p1), .val (.int p2), .val (.int p3), .val (.int ln), .val (.int c533), .val (.int c534), .val (.int c535), .val (.ref b568), .val (.int (0 : Int32))] [(.ref b568)])) rfl (by rw [hml]; rfl) (argsL := [(.ref b568)]) (rest := []) (lenOf pd_17 rfl) rfl (by show 2 * 0 + _ ≤ _; exact Nat.le_of_eq rfl) (hb hby at_169) (fun _ _ => ⟨rfl, rfl, Nat.le_of_ble_eq_true rfl, Nat.le_of_ble_eq_true rfl⟩)
              dsimp only [Pt.U, Pt.locs, Pt.cells, Pt.slots] at X587' S587' hgr587 l587 y587 z587 st587 hQ587 hC587
              rw [l587, y587, z587] at X587'
              have X587 : Stand p l e _ (s.setVm T587.vm) m #[(.int p0), (.int p1), (.int p2), (.int p3)] below meth c T587 _ _ _ := X587'
              have S587 : s.Since T587.vm T587.heap.size := S587'
              have hZ587 : Z.Warmed39 (s.setVm T587.vm).vm := State.Warmed39.trans (t := (s.setVm s.vm)) hZ S587'.1
              have hown587 : (s.setVm T587.vm).vm.findClass "com/example/hermod/hermod/PercentEncodingIsDotSegmentPinLaw" = some m.cls := by rw [show (s.setVm T587.vm).vm = T587.vm from rfl, S587'.1.alike.findClass]; exact hown
              obtain ⟨rfl, rfl, E587⟩ := hQ587
              have N587 := Fr.app N581 (Fr.nil n0)
              have R587 : CHr Z EL s.vm h0 T587.vm T587.heap := R586.trans hC587
              refine OGets.after st587 ?_
              refine OGets.step (fun _ => XS.iload X587.here hx rfl (hb hby at_172) rfl) ?_
              refine OGets.step (fun _ => XS.icmpNo X587.here hx rfl (hb hby at_174) rfl (teq (rfl : (0 : Int32) = (0 : Int32))).2) ?_
              refine OGets.step (fun _ => XS.iconst X587.here hx rfl (hb hby at_177)) ?_
              refine OGets.step (fun _ => XS.goto X587.here hx rfl (pc0 := 178) (pc' := 182) rfl (hb hby at_178) (by decide) (by decide)) ?_
              refine OGets.retNW X587 hx hlk (t := .boolean) Bd.returns (by simp) (hb hby at_182) S587 (Nat.le_refl _) (by rw [hh]; exact R587.trans (CHv.at X587 hZ587 hEL R587.1)) (Nat.le_of_ble_eq_true rfl) (Nat.le_of_ble_eq_true rfl) ?_
              exact ⟨rfl, N587⟩
            · refine OGets.step (fun _ => XS.icmpYes X581.here hx rfl (pc0 := 150) (pc' := 164) rfl (hb hby at_150) rfl (feq hc150_584).2 (by decide) (by decide)) ?_
              show OGets p e below _ (T581.setTop (mkF m 164 #[.val (.int p0), .val (.int p1), .val (.int p2), .val (.int p3), .val (.int ln), .val (.int c533), .val (.int c534), .val (.int c535), .val (.ref b568), .unset] []))
              refine OGets.step (fun _ => XS.iconst X581.here hx rfl (hb hby at_164)) ?_
              refine OGets.step (fun _ => XS.istore X581.here hx rfl (hb hby at_165) rfl (l' := #[.val (.int p0), .val (.int p1), .val (.int p2), .val (.int p3), .val (.int ln), .val (.int c533), .val (.int c534), .val (.int c535), .val (.ref b568), .val (.int (0 : Int32))]) rfl) ?_
              refine OGets.step (fun _ => XS.aload X581.here hx rfl (hb hby at_167) rfl rfl) ?_
              have R589 : CHr Z EL s.vm h0 s.vm T581.heap := CHr.ext (by rw [← hZh]; exact O581q.2) hCH
              show OGets p e below _ (T581.setTop (mkF m 169 #[.val (.int p0), .val (.int p1), .val (.int p2), .val (.int p3), .val (.int ln), .val (.int c533), .val (.int c534), .val (.int c535), .val (.ref b568), .val (.int (0 : Int32))] [(.ref b568)]))
              have Xw590 : Stand p l e _ (s.setVm s.vm) m #[(.int p0), (.int p1), (.int p2), (.int p3)] below meth c T581 _ _ _ := X581
              obtain ⟨_, _, ⟨T590, L590, k590, n590⟩, -, X590', S590', hgr590, ⟨Lc590, hQ590, l590, y590, z590, hC590⟩, st590⟩ := callSS Xw590 hx (y := (⟨"com/example/hermod/hermod/PercentEncoding", "isDotSegment", "(Ljava/lang/String;)Z"⟩ : MethodName)) hown (mvT hZ (hw _ (List.mem_of_getElem? (i := 28) rfl))) (mvT hZ (hw _ (List.mem_of_getElem? (i := 29) rfl))) (mvT hZ (hw _ (List.mem_of_getElem? (i := 30) rfl))) (mvT hZ (hw _ (List.mem_of_getElem? (i := 31) rfl))) (by decide) (backOfSH (EL := EL) (W := 0) (rm_idu l Z a0 hw [] b568 b581 G EL T581.heap n0 _ Z581 (S0.ext O581q.2) hG hm91 hm97 hEL V581v.read) hZ (hw _ (List.mem_of_getElem? (i := 31) rfl)) (hw _ (List.mem_of_getElem? (i := 30) rfl)) (by decide) (by decide) hEL R589.1) (g := (mkF m 169 #[.val (.int p0), .val (.int p1), .val (.int p2), .val (.int p3), .val (.int ln), .val (.int c533), .val (.int c534), .val (.int c535), .val (.ref b568), .val (.int (0 : Int32))] [(.ref b568)])) rfl (by rw [hml]; rfl) (argsL := [(.ref b568)]) (rest := []) (lenOf pd_17 rfl) rfl (by show 2 * 0 + _ ≤ _; exact Nat.le_of_eq rfl) (hb hby at_169) (fun _ _ => ⟨rfl, rfl, Nat.le_of_ble_eq_true rfl, Nat.le_of_ble_eq_true rfl⟩)
              dsimp only [Pt.U, Pt.locs, Pt.cells, Pt.slots] at X590' S590' hgr590 l590 y590 z590 st590 hQ590 hC590
              rw [l590, y590, z590] at X590'
              have X590 : Stand p l e _ (s.setVm T590.vm) m #[(.int p0), (.int p1), (.int p2), (.int p3)] below meth c T590 _ _ _ := X590'
              have S590 : s.Since T590.vm T590.heap.size := S590'
              have hZ590 : Z.Warmed39 (s.setVm T590.vm).vm := State.Warmed39.trans (t := (s.setVm s.vm)) hZ S590'.1
              have hown590 : (s.setVm T590.vm).vm.findClass "com/example/hermod/hermod/PercentEncodingIsDotSegmentPinLaw" = some m.cls := by rw [show (s.setVm T590.vm).vm = T590.vm from rfl, S590'.1.alike.findClass]; exact hown
              obtain ⟨rfl, rfl, E590⟩ := hQ590
              have N590 := Fr.app N581 (Fr.nil n0)
              have R590 : CHr Z EL s.vm h0 T590.vm T590.heap := R589.trans hC590
              refine OGets.after st590 ?_
              refine OGets.step (fun _ => XS.iload X590.here hx rfl (hb hby at_172) rfl) ?_
              refine OGets.step (fun _ => XS.icmpNo X590.here hx rfl (hb hby at_174) rfl (teq (rfl : (0 : Int32) = (0 : Int32))).2) ?_
              refine OGets.step (fun _ => XS.iconst X590.here hx rfl (hb hby at_177)) ?_
              refine OGets.step (fun _ => XS.goto X590.here hx rfl (pc0 := 178) (pc' := 182) rfl (hb hby at_178) (by decide) (by decide)) ?_
              refine OGets.retNW X590 hx hlk (t := .boolean) Bd.returns (by simp) (hb hby at_182) S590 (Nat.le_refl _) (by rw [hh]; exact R590.trans (CHv.at X590 hZ590 hEL R590.1)) (Nat.le_of_ble_eq_true rfl) (Nat.le_of_ble_eq_true rfl) ?_
              exact ⟨rfl, N590⟩
          · show OGets p e below _ (T571.setTop (mkF m 92 #[.val (.int p0), .val (.int p1), .val (.int p2), .val (.int p3), .val (.int ln), .val (.int c533), .val (.int c534), .val (.int c535), .unset, .unset] [(.ref b569), (.ref b568), (.ref b568)]))
            have V592_ : OView Z _ h571 (((b568, Sum.inl ("java/lang/String", ns_String, [.null, (.int (0 : Int32))])) : Addr × OObj) :: ((b569, Sum.inr (.char, [(.int c533), (.int c534)])) : Addr × OObj) :: []) := (V571.bring 1 rfl)
            obtain ⟨_, _, ⟨T592, L592, k592, n592⟩, -, X592, ⟨Lc592, hQ592, l592, y592, z592⟩, st592⟩ := X571.specialBack hx (y := (⟨"java/lang/String", "<init>", "([C)V"⟩ : MethodName)) rfl hown (mvT hZ (hw _ (List.mem_of_getElem? (i := 10) rfl))) (mvT hZ (hw _ (List.mem_of_getElem? (i := 11) rfl))) (mvT hZ (hw _ (List.mem_of_getElem? (i := 12) rfl))) (by decide) (backOf (W := 1) (rm_i1_22 l Z a0 hw [] b568 b569 G c533 c534 h571 n0 _ Z571 S0 hG SA SH SL hu572 hu580 V592_ O571) hZ (hw _ (List.mem_of_getElem? (i := 12) rfl)) (hw _ (List.mem_of_getElem? (i := 8) rfl)) (by decide) (by decide)) (g := (mkF m 92 #[.val (.int p0), .val (.int p1), .val (.int p2), .val (.int p3), .val (.int ln), .val (.int c533), .val (.int c534), .val (.int c535), .unset, .unset] [(.ref b569), (.ref b568), (.ref b568)])) rfl (by rw [hml]; rfl) (Steps.refl _) (a := b568) (argsL := [(.ref b569)]) (rest := [(.ref b568)]) (lenOf pd_16 rfl) rfl (by show 2 * 0 + _ ≤ _; exact Nat.le_of_eq rfl) (hb hby at_92) (fun _ _ => ⟨rfl, e571, Nat.le_of_ble_eq_true rfl, Nat.le_of_ble_eq_true rfl⟩)
            dsimp only [Pt.U, Pt.locs, Pt.cells, Pt.slots] at X592 l592 y592 z592 st592 hQ592
            rw [l592, y592, z592] at X592
            obtain ⟨rfl, N592q, b592, V592, O592q⟩ := hQ592
            have N592 := Fr.app N571 N592q
            have V592v : OView Z n0 T592.heap (((b568, Sum.inl ("java/lang/String", ns_String, [(.ref b592), (.int (0 : Int32))])) : Addr × OObj) :: ((b592, Sum.inr (.byte, [(.int (yb c533)), (.int (yb c534))])) : Addr × OObj) :: ((b569, Sum.inr (.char, [(.int c533), (.int c534)])) : Addr × OObj) :: []) := V592
            have Z592 : n0 ≤ T592.heap.size := V592v.big 0 rfl
            refine OGets.after st592 ?_
            refine OGets.step (fun _ => XS.astore X592.here hx rfl (hb hby at_95) rfl rfl (l' := #[.val (.int p0), .val (.int p1), .val (.int p2), .val (.int p3), .val (.int ln), .val (.int c533), .val (.int c534), .val (.int c535), .val (.ref b568), .unset]) rfl) ?_
            refine OGets.step (fun _ => XS.goto X592.here hx rfl (pc0 := 97) (pc' := 127) rfl (hb hby at_97) (by decide) (by decide)) ?_
            refine OGets.step (fun _ => XS.iload X592.here hx rfl (hb hby at_127) rfl) ?_
            refine OGets.step (fun _ => XS.iconst X592.here hx rfl (hb hby at_129)) ?_
            refine OGets.step (fun _ => XS.icmpYes X592.here hx rfl (pc0 := 130) (pc' := 140) rfl (hb hby at_130) rfl (feq (by rw [hc72_567]; decide : ¬ (ln = (1 : Int32)))).2 (by decide) (by decide)) ?_
            show OGets p e below _ (T592.setTop (mkF m 140 #[.val (.int p0), .val (.int p1), .val (.int p2), .val (.int p3), .val (.int ln), .val (.int c533), .val (.int c534), .val (.int c535), .val (.ref b568), .unset] []))
            refine OGets.step (fun _ => XS.iload X592.here hx rfl (hb hby at_140) rfl) ?_
            refine OGets.step (fun _ => XS.iconst X592.here hx rfl (hb hby at_142)) ?_
            refine OGets.step (fun _ => XS.icmpNo X592.here hx rfl (hb hby at_143) rfl (teq (hc72_567 : ln = (2 : Int32))).2) ?_
            refine OGets.step (fun _ => XS.iload X592.here hx rfl (hb hby at_146) rfl) ?_
            refine OGets.step (fun _ => XS.bipush X592.here hx rfl (hb hby at_148)) ?_
            by_cases hc150_595 : c533 = (46 : Int32)
            · refine OGets.step (fun _ => XS.icmpNo X592.here hx rfl (hb hby at_150) rfl (teq hc150_595).2) ?_
              show OGets p e below _ (T592.setTop (mkF m 153 #[.val (.int p0), .val (.int p1), .val (.int p2), .val (.int p3), .val (.int ln), .val (.int c533), .val (.int c534), .val (.int c535), .val (.ref b568), .unset] []))
              refine OGets.step (fun _ => XS.iload X592.here hx rfl (hb hby at_153) rfl) ?_
              refine OGets.step (fun _ => XS.bipush X592.here hx rfl (hb hby at_155)) ?_
              by_cases hc157_596 : c534 = (46 : Int32)
              · refine OGets.step (fun _ => XS.icmpNo X592.here hx rfl (hb hby at_157) rfl (teq hc157_596).2) ?_
                show OGets p e below _ (T592.setTop (mkF m 160 #[.val (.int p0), .val (.int p1), .val (.int p2), .val (.int p3), .val (.int ln), .val (.int c533), .val (.int c534), .val (.int c535), .val (.ref b568), .unset] []))
                refine OGets.step (fun _ => XS.iconst X592.here hx rfl (hb hby at_160)) ?_
                refine OGets.step (fun _ => XS.goto X592.here hx rfl (pc0 := 161) (pc' := 165) rfl (hb hby at_161) (by decide) (by decide)) ?_
                refine OGets.step (fun _ => XS.istore X592.here hx rfl (hb hby at_165) rfl (l' := #[.val (.int p0), .val (.int p1), .val (.int p2), .val (.int p3), .val (.int ln), .val (.int c533), .val (.int c534), .val (.int c535), .val (.ref b568), .val (.int (1 : Int32))]) rfl) ?_
                refine OGets.step (fun _ => XS.aload X592.here hx rfl (hb hby at_167) rfl rfl) ?_
                have R597 : CHr Z EL s.vm h0 s.vm T592.heap := CHr.ext (by rw [← hZh]; exact O592q.2) hCH
                show OGets p e below _ (T592.setTop (mkF m 169 #[.val (.int p0), .val (.int p1), .val (.int p2), .val (.int p3), .val (.int ln), .val (.int c533), .val (.int c534), .val (.int c535), .val (.ref b568), .val (.int (1 : Int32))] [(.ref b568)]))
                have Xw598 : Stand p l e _ (s.setVm s.vm) m #[(.int p0), (.int p1), (.int p2), (.int p3)] below meth c T592 _ _ _ := X592
                obtain ⟨_, _, ⟨T598, L598, k598, n598⟩, -, X598', S598', hgr598, ⟨Lc598, hQ598, l598, y598, z598, hC598⟩, st598⟩ := callSS Xw598 hx (y := (⟨"com/example/hermod/hermod/PercentEncoding", "isDotSegment", "(Ljava/lang/String;)Z"⟩ : MethodName)) hown (mvT hZ (hw _ (List.mem_of_getElem? (i := 28) rfl))) (mvT hZ (hw _ (List.mem_of_getElem? (i := 29) rfl))) (mvT hZ (hw _ (List.mem_of_getElem? (i := 30) rfl))) (mvT hZ (hw _ (List.mem_of_getElem? (i := 31) rfl))) (by decide) (backOfSH (EL := EL) (W := 0) (rm_id2 l Z a0 hw [] b568 b592 G (yb c533) (yb c534) EL T592.heap n0 _ Z592 (S0.ext O592q.2) hG hm91 hm97 hEL V592v.read) hZ (hw _ (List.mem_of_getElem? (i := 31) rfl)) (hw _ (List.mem_of_getElem? (i := 30) rfl)) (by decide) (by decide) hEL R597.1) (g := (mkF m 169 #[.val (.int p0), .val (.int p1), .val (.int p2), .val (.int p3), .val (.int ln), .val (.int c533), .val (.int c534), .val (.int c535), .val (.ref b568), .val (.int (1 : Int32))] [(.ref b568)])) rfl (by rw [hml]; rfl) (argsL := [(.ref b568)]) (rest := []) (lenOf pd_17 rfl) rfl (by show 2 * 0 + _ ≤ _; exact Nat.le_of_eq rfl) (hb hby at_169) (fun _ _ => ⟨rfl, rfl, Nat.le_of_ble_eq_true rfl, Nat.le_of_ble_eq_true rfl⟩)
                dsimp only [Pt.U, Pt.locs, Pt.cells, Pt.slots] at X598' S598' hgr598 l598 y598 z598 st598 hQ598 hC598
                rw [l598, y598, z598] at X598'
                have X598 : Stand p l e _ (s.setVm T598.vm) m #[(.int p0), (.int p1), (.int p2), (.int p3)] below meth c T598 _ _ _ := X598'
                have S598 : s.Since T598.vm T598.heap.size := S598'
                have hZ598 : Z.Warmed39 (s.setVm T598.vm).vm := State.Warmed39.trans (t := (s.setVm s.vm)) hZ S598'.1
                have hown598 : (s.setVm T598.vm).vm.findClass "com/example/hermod/hermod/PercentEncodingIsDotSegmentPinLaw" = some m.cls := by rw [show (s.setVm T598.vm).vm = T598.vm from rfl, S598'.1.alike.findClass]; exact hown
                obtain ⟨rfl, rfl, E598⟩ := hQ598
                have N598 := Fr.app N592 (Fr.nil n0)
                have R598 : CHr Z EL s.vm h0 T598.vm T598.heap := R597.trans hC598
                refine OGets.after st598 ?_
                refine OGets.step (fun _ => XS.iload X598.here hx rfl (hb hby at_172) rfl) ?_
                refine OGets.step (fun _ => XS.icmpNo X598.here hx rfl (hb hby at_174) rfl (teq ((own_d2 w533 hu572 w534 hu580).1 hc150_595 hc157_596 : (f_id2 (yb c533) (yb c534)) = (1 : Int32))).2) ?_
                refine OGets.step (fun _ => XS.iconst X598.here hx rfl (hb hby at_177)) ?_
                refine OGets.step (fun _ => XS.goto X598.here hx rfl (pc0 := 178) (pc' := 182) rfl (hb hby at_178) (by decide) (by decide)) ?_
                refine OGets.retNW X598 hx hlk (t := .boolean) Bd.returns (by simp) (hb hby at_182) S598 (Nat.le_refl _) (by rw [hh]; exact R598.trans (CHv.at X598 hZ598 hEL R598.1)) (Nat.le_of_ble_eq_true rfl) (Nat.le_of_ble_eq_true rfl) ?_
                exact ⟨rfl, N598⟩
              · refine OGets.step (fun _ => XS.icmpYes X592.here hx rfl (pc0 := 157) (pc' := 164) rfl (hb hby at_157) rfl (feq hc157_596).2 (by decide) (by decide)) ?_
                show OGets p e below _ (T592.setTop (mkF m 164 #[.val (.int p0), .val (.int p1), .val (.int p2), .val (.int p3), .val (.int ln), .val (.int c533), .val (.int c534), .val (.int c535), .val (.ref b568), .unset] []))
                refine OGets.step (fun _ => XS.iconst X592.here hx rfl (hb hby at_164)) ?_
                refine OGets.step (fun _ => XS.istore X592.here hx rfl (hb hby at_165) rfl (l' := #[.val (.int p0), .val (.int p1), .val (.int p2), .val (.int p3), .val (.int ln), .val (.int c533), .val (.int c534), .val (.int c535), .val (.ref b568), .val (.int (0 : Int32))]) rfl) ?_
                refine OGets.step (fun _ => XS.aload X592.here hx rfl (hb hby at_167) rfl rfl) ?_
                have R600 : CHr Z EL s.vm h0 s.vm T592.heap := CHr.ext (by rw [← hZh]; exact O592q.2) hCH
                show OGets p e below _ (T592.setTop (mkF m 169 #[.val (.int p0), .val (.int p1), .val (.int p2), .val (.int p3), .val (.int ln), .val (.int c533), .val (.int c534), .val (.int c535), .val (.ref b568), .val (.int (0 : Int32))] [(.ref b568)]))
                have Xw601 : Stand p l e _ (s.setVm s.vm) m #[(.int p0), (.int p1), (.int p2), (.int p3)] below meth c T592 _ _ _ := X592
                obtain ⟨_, _, ⟨T601, L601, k601, n601⟩, -, X601', S601', hgr601, ⟨Lc601, hQ601, l601, y601, z601, hC601⟩, st601⟩ := callSS Xw601 hx (y := (⟨"com/example/hermod/hermod/PercentEncoding", "isDotSegment", "(Ljava/lang/String;)Z"⟩ : MethodName)) hown (mvT hZ (hw _ (List.mem_of_getElem? (i := 28) rfl))) (mvT hZ (hw _ (List.mem_of_getElem? (i := 29) rfl))) (mvT hZ (hw _ (List.mem_of_getElem? (i := 30) rfl))) (mvT hZ (hw _ (List.mem_of_getElem? (i := 31) rfl))) (by decide) (backOfSH (EL := EL) (W := 0) (rm_id2 l Z a0 hw [] b568 b592 G (yb c533) (yb c534) EL T592.heap n0 _ Z592 (S0.ext O592q.2) hG hm91 hm97 hEL V592v.read) hZ (hw _ (List.mem_of_getElem? (i := 31) rfl)) (hw _ (List.mem_of_getElem? (i := 30) rfl)) (by decide) (by decide) hEL R600.1) (g := (mkF m 169 #[.val (.int p0), .val (.int p1), .val (.int p2), .val (.int p3), .val (.int ln), .val (.int c533), .val (.int c534), .val (.int c535), .val (.ref b568), .val (.int (0 : Int32))] [(.ref b568)])) rfl (by rw [hml]; rfl) (argsL := [(.ref b568)]) (rest := []) (lenOf pd_17 rfl) rfl (by show 2 * 0 + _ ≤ _; exact Nat.le_of_eq rfl) (hb hby at_169) (fun _ _ => ⟨rfl, rfl, Nat.le_of_ble_eq_true rfl, Nat.le_of_ble_eq_true rfl⟩)
                dsimp only [Pt.U, Pt.locs, Pt.cells, Pt.slots] at X601' S601' hgr601 l601 y601 z601 st601 hQ601 hC601
                rw [l601, y601, z601] at X601'
                have X601 : Stand p l e _ (s.setVm T601.vm) m #[(.int p0), (.int p1), (.int p2), (.int p3)] below meth c T601 _ _ _ := X601'
                have S601 : s.Since T601.vm T601.heap.size := S601'
                have hZ601 : Z.Warmed39 (s.setVm T601.vm).vm := State.Warmed39.trans (t := (s.setVm s.vm)) hZ S601'.1
                have hown601 : (s.setVm T601.vm).vm.findClass "com/example/hermod/hermod/PercentEncodingIsDotSegmentPinLaw" = some m.cls := by rw [show (s.setVm T601.vm).vm = T601.vm from rfl, S601'.1.alike.findClass]; exact hown
                obtain ⟨rfl, rfl, E601⟩ := hQ601
                have N601 := Fr.app N592 (Fr.nil n0)
                have R601 : CHr Z EL s.vm h0 T601.vm T601.heap := R600.trans hC601
                refine OGets.after st601 ?_
                refine OGets.step (fun _ => XS.iload X601.here hx rfl (hb hby at_172) rfl) ?_
                refine OGets.step (fun _ => XS.icmpNo X601.here hx rfl (hb hby at_174) rfl (teq ((own_d2 w533 hu572 w534 hu580).2 (fun q => hc157_596 q.2) : (f_id2 (yb c533) (yb c534)) = (0 : Int32))).2) ?_
                refine OGets.step (fun _ => XS.iconst X601.here hx rfl (hb hby at_177)) ?_
                refine OGets.step (fun _ => XS.goto X601.here hx rfl (pc0 := 178) (pc' := 182) rfl (hb hby at_178) (by decide) (by decide)) ?_
                refine OGets.retNW X601 hx hlk (t := .boolean) Bd.returns (by simp) (hb hby at_182) S601 (Nat.le_refl _) (by rw [hh]; exact R601.trans (CHv.at X601 hZ601 hEL R601.1)) (Nat.le_of_ble_eq_true rfl) (Nat.le_of_ble_eq_true rfl) ?_
                exact ⟨rfl, N601⟩
            · refine OGets.step (fun _ => XS.icmpYes X592.here hx rfl (pc0 := 150) (pc' := 164) rfl (hb hby at_150) rfl (feq hc150_595).2 (by decide) (by decide)) ?_
              show OGets p e below _ (T592.setTop (mkF m 164 #[.val (.int p0), .val (.int p1), .val (.int p2), .val (.int p3), .val (.int ln), .val (.int c533), .val (.int c534), .val (.int c535), .val (.ref b568), .unset] []))
              refine OGets.step (fun _ => XS.iconst X592.here hx rfl (hb hby at_164)) ?_
              refine OGets.step (fun _ => XS.istore X592.here hx rfl (hb hby at_165) rfl (l' := #[.val (.int p0), .val (.int p1), .val (.int p2), .val (.int p3), .val (.int ln), .val (.int c533), .val (.int c534), .val (.int c535), .val (.ref b568), .val (.int (0 : Int32))]) rfl) ?_
              refine OGets.step (fun _ => XS.aload X592.here hx rfl (hb hby at_167) rfl rfl) ?_
              have R603 : CHr Z EL s.vm h0 s.vm T592.heap := CHr.ext (by rw [← hZh]; exact O592q.2) hCH
              show OGets p e below _ (T592.setTop (mkF m 169 #[.val (.int p0), .val (.int p1), .val (.int p2), .val (.int p3), .val (.int ln), .val (.int c533), .val (.int c534), .val (.int c535), .val (.ref b568), .val (.int (0 : Int32))] [(.ref b568)]))
              have Xw604 : Stand p l e _ (s.setVm s.vm) m #[(.int p0), (.int p1), (.int p2), (.int p3)] below meth c T592 _ _ _ := X592
              obtain ⟨_, _, ⟨T604, L604, k604, n604⟩, -, X604', S604', hgr604, ⟨Lc604, hQ604, l604, y604, z604, hC604⟩, st604⟩ := callSS Xw604 hx (y := (⟨"com/example/hermod/hermod/PercentEncoding", "isDotSegment", "(Ljava/lang/String;)Z"⟩ : MethodName)) hown (mvT hZ (hw _ (List.mem_of_getElem? (i := 28) rfl))) (mvT hZ (hw _ (List.mem_of_getElem? (i := 29) rfl))) (mvT hZ (hw _ (List.mem_of_getElem? (i := 30) rfl))) (mvT hZ (hw _ (List.mem_of_getElem? (i := 31) rfl))) (by decide) (backOfSH (EL := EL) (W := 0) (rm_id2 l Z a0 hw [] b568 b592 G (yb c533) (yb c534) EL T592.heap n0 _ Z592 (S0.ext O592q.2) hG hm91 hm97 hEL V592v.read) hZ (hw _ (List.mem_of_getElem? (i := 31) rfl)) (hw _ (List.mem_of_getElem? (i := 30) rfl)) (by decide) (by decide) hEL R603.1) (g := (mkF m 169 #[.val (.int p0), .val (.int p1), .val (.int p2), .val (.int p3), .val (.int ln), .val (.int c533), .val (.int c534), .val (.int c535), .val (.ref b568), .val (.int (0 : Int32))] [(.ref b568)])) rfl (by rw [hml]; rfl) (argsL := [(.ref b568)]) (rest := []) (lenOf pd_17 rfl) rfl (by show 2 * 0 + _ ≤ _; exact Nat.le_of_eq rfl) (hb hby at_169) (fun _ _ => ⟨rfl, rfl, Nat.le_of_ble_eq_true rfl, Nat.le_of_ble_eq_true rfl⟩)
              dsimp only [Pt.U, Pt.locs, Pt.cells, Pt.slots] at X604' S604' hgr604 l604 y604 z604 st604 hQ604 hC604
              rw [l604, y604, z604] at X604'
              have X604 : Stand p l e _ (s.setVm T604.vm) m #[(.int p0), (.int p1), (.int p2), (.int p3)] below meth c T604 _ _ _ := X604'
              have S604 : s.Since T604.vm T604.heap.size := S604'
              have hZ604 : Z.Warmed39 (s.setVm T604.vm).vm := State.Warmed39.trans (t := (s.setVm s.vm)) hZ S604'.1
              have hown604 : (s.setVm T604.vm).vm.findClass "com/example/hermod/hermod/PercentEncodingIsDotSegmentPinLaw" = some m.cls := by rw [show (s.setVm T604.vm).vm = T604.vm from rfl, S604'.1.alike.findClass]; exact hown
              obtain ⟨rfl, rfl, E604⟩ := hQ604
              have N604 := Fr.app N592 (Fr.nil n0)
              have R604 : CHr Z EL s.vm h0 T604.vm T604.heap := R603.trans hC604
              refine OGets.after st604 ?_
              refine OGets.step (fun _ => XS.iload X604.here hx rfl (hb hby at_172) rfl) ?_
              refine OGets.step (fun _ => XS.icmpNo X604.here hx rfl (hb hby at_174) rfl (teq ((own_d2 w533 hu572 w534 hu580).2 (fun q => hc150_595 q.1) : (f_id2 (yb c533) (yb c534)) = (0 : Int32))).2) ?_
              refine OGets.step (fun _ => XS.iconst X604.here hx rfl (hb hby at_177)) ?_
              refine OGets.step (fun _ => XS.goto X604.here hx rfl (pc0 := 178) (pc' := 182) rfl (hb hby at_178) (by decide) (by decide)) ?_
              refine OGets.retNW X604 hx hlk (t := .boolean) Bd.returns (by simp) (hb hby at_182) S604 (Nat.le_refl _) (by rw [hh]; exact R604.trans (CHv.at X604 hZ604 hEL R604.1)) (Nat.le_of_ble_eq_true rfl) (Nat.le_of_ble_eq_true rfl) ?_
              exact ⟨rfl, N604⟩
      · refine OGets.step (fun _ => XS.icmpYes X535.here hx rfl (pc0 := 72) (pc' := 100) rfl (hb hby at_72) rfl (feq hc72_567).2 (by decide) (by decide)) ?_
        show OGets p e below _ (T535.setTop (mkF m 100 #[.val (.int p0), .val (.int p1), .val (.int p2), .val (.int p3), .val (.int ln), .val (.int c533), .val (.int c534), .val (.int c535), .unset, .unset] []))
        obtain ⟨T606, h606, X606, e606, E606, A606, D606, -, st606⟩ := newO X535 hx hZ hown (hw _ (List.mem_of_getElem? (i := 6) rfl)) (hw _ (List.mem_of_getElem? (i := 7) rfl)) (hw _ (List.mem_of_getElem? (i := 8) rfl)) e535 (g := (mkF m 100 #[.val (.int p0), .val (.int p1), .val (.int p2), .val (.int p3), .val (.int ln), .val (.int c533), .val (.int c534), .val (.int c535), .unset, .unset] [])) rfl (hb hby at_100) (by decide) (by decide)
        have V606' := V0.newObj (ns := ns_String) (vs := [.null, (.int (0 : Int32))]) Z0 E606 A606 D606 (lay_ns_String hw) (by decide) (by decide)
        have Z606 : n0 ≤ h606.size := Nat.le_trans Z0 E606.1
        obtain ⟨b606, g606⟩ : ∃ z, z = h0.size := ⟨_, rfl⟩
        rw [← g606] at V606' st606
        have V606 : OView Z n0 h606 (((b606, Sum.inl ("java/lang/String", ns_String, [.null, (.int (0 : Int32))])) : Addr × OObj) :: []) := V606'
        have O606 := O0.ext E606
        refine OGets.step st606 ?_
        refine OGets.step (fun _ => XS.dup X606.here hx rfl (hb hby at_103) rfl rfl) ?_
        refine OGets.step (fun _ => XS.iconst X606.here hx rfl (hb hby at_104)) ?_
        obtain ⟨T607, h607, k607, X607, e607, E607, A607, st607⟩ := newP X606 hx hZ (hw _ (List.mem_of_getElem? (i := 9) rfl)) e606 (g := (mkF m 105 #[.val (.int p0), .val (.int p1), .val (.int p2), .val (.int p3), .val (.int ln), .val (.int c533), .val (.int c534), .val (.int c535), .unset, .unset] [(.int (3 : Int32)), (.ref b606), (.ref b606)])) rfl (hb hby at_105) rfl (by decide) (cap := 3) (by decide) (by decide) (by decide) (by decide)
        have V607' := V606.newArr Z606 E607 A607 3 rfl
        have Z607 : n0 ≤ h607.size := Nat.le_trans Z606 E607.1
        obtain ⟨b607, g607⟩ : ∃ z, z = h606.size := ⟨_, rfl⟩
        rw [← g607] at V607' st607
        have V607 : OView Z n0 h607 (((b607, Sum.inr (.char, [(.int (0 : Int32)), (.int (0 : Int32)), (.int (0 : Int32))])) : Addr × OObj) :: ((b606, Sum.inl ("java/lang/String", ns_String, [.null, (.int (0 : Int32))])) : Addr × OObj) :: []) := V607'
        have O607 := O606.ext E607
        refine OGets.step st607 ?_
        refine OGets.step (fun _ => XS.dup X607.here hx rfl (hb hby at_107) rfl rfl) ?_
        refine OGets.step (fun _ => XS.iconst X607.here hx rfl (hb hby at_108)) ?_
        refine OGets.step (fun _ => XS.iload X607.here hx rfl (hb hby at_109) rfl) ?_
        obtain ⟨cl608, Ar608, S608⟩ := V607.arr 0 rfl
        obtain ⟨T608, h608, X608, e608, W608', st608⟩ := stC X607 hx hZ e607 Ar608 (j := (0 : Int32)) (own_inb S608 0 (by decide) (Nat.le_of_ble_eq_true rfl)) (g := (mkF m 111 #[.val (.int p0), .val (.int p1), .val (.int p2), .val (.int p3), .val (.int ln), .val (.int c533), .val (.int c534), .val (.int c535), .unset, .unset] [(.int c533), (.int (0 : Int32)), (.ref b607), (.ref b607), (.ref b606), (.ref b606)])) rfl rfl (hb hby at_111)
        rw [own_narC w533] at W608'
        have W608 := own_wr (vs := []) 0 (by decide) W608'
        have V608 : OView Z n0 h608 (((b607, Sum.inr (.char, [(.int c533), (.int (0 : Int32)), (.int (0 : Int32))])) : Addr × OObj) :: ((b606, Sum.inl ("java/lang/String", ns_String, [.null, (.int (0 : Int32))])) : Addr × OObj) :: []) := V607.putA 0 rfl W608
        have N608 := Fr.snoc X608 N535 (V607.old 0 rfl)
        have Z608 : n0 ≤ h608.size := by rw [W608.size]; exact Z607
        have O608 := O607.wr W608 (V607.old 0 rfl)
        refine OGets.step st608 ?_
        refine OGets.step (fun _ => XS.dup X608.here hx rfl (hb hby at_112) rfl rfl) ?_
        refine OGets.step (fun _ => XS.iconst X608.here hx rfl (hb hby at_113)) ?_
        refine OGets.step (fun _ => XS.iload X608.here hx rfl (hb hby at_114) rfl) ?_
        obtain ⟨cl609, Ar609, S609⟩ := V608.arr 0 rfl
        obtain ⟨T609, h609, X609, e609, W609', st609⟩ := stC X608 hx hZ e608 Ar609 (j := (1 : Int32)) (own_inb S609 1 (by decide) (Nat.le_of_ble_eq_true rfl)) (g := (mkF m 116 #[.val (.int p0), .val (.int p1), .val (.int p2), .val (.int p3), .val (.int ln), .val (.int c533), .val (.int c534), .val (.int c535), .unset, .unset] [(.int c534), (.int (1 : Int32)), (.ref b607), (.ref b607), (.ref b606), (.ref b606)])) rfl rfl (hb hby at_116)
        rw [own_narC w534] at W609'
        have W609 := own_wr (vs := []) 1 (by decide) W609'
        have V609 : OView Z n0 h609 (((b607, Sum.inr (.char, [(.int c533), (.int c534), (.int (0 : Int32))])) : Addr × OObj) :: ((b606, Sum.inl ("java/lang/String", ns_String, [.null, (.int (0 : Int32))])) : Addr × OObj) :: []) := V608.putA 0 rfl W609
        have N609 := Fr.snoc X609 N608 (V608.old 0 rfl)
        have Z609 : n0 ≤ h609.size := by rw [W609.size]; exact Z608
        have O609 := O608.wr W609 (V608.old 0 rfl)
        refine OGets.step st609 ?_
        refine OGets.step (fun _ => XS.dup X609.here hx rfl (hb hby at_117) rfl rfl) ?_
        refine OGets.step (fun _ => XS.iconst X609.here hx rfl (hb hby at_118)) ?_
        refine OGets.step (fun _ => XS.iload X609.here hx rfl (hb hby at_119) rfl) ?_
        obtain ⟨cl610, Ar610, S610⟩ := V609.arr 0 rfl
        obtain ⟨T610, h610, X610, e610, W610', st610⟩ := stC X609 hx hZ e609 Ar610 (j := (2 : Int32)) (own_inb S610 2 (by decide) (Nat.le_of_ble_eq_true rfl)) (g := (mkF m 121 #[.val (.int p0), .val (.int p1), .val (.int p2), .val (.int p3), .val (.int ln), .val (.int c533), .val (.int c534), .val (.int c535), .unset, .unset] [(.int c535), (.int (2 : Int32)), (.ref b607), (.ref b607), (.ref b606), (.ref b606)])) rfl rfl (hb hby at_121)
        rw [own_narC w535] at W610'
        have W610 := own_wr (vs := []) 2 (by decide) W610'
        have V610 : OView Z n0 h610 (((b607, Sum.inr (.char, [(.int c533), (.int c534), (.int c535)])) : Addr × OObj) :: ((b606, Sum.inl ("java/lang/String", ns_String, [.null, (.int (0 : Int32))])) : Addr × OObj) :: []) := V609.putA 0 rfl W610
        have N610 := Fr.snoc X610 N609 (V609.old 0 rfl)
        have Z610 : n0 ≤ h610.size := by rw [W610.size]; exact Z609
        have O610 := O609.wr W610 (V609.old 0 rfl)
        refine OGets.step st610 ?_
        by_cases hu611 : (255 : Int32) < c533
        · show OGets p e below _ (T610.setTop (mkF m 122 #[.val (.int p0), .val (.int p1), .val (.int p2), .val (.int p3), .val (.int ln), .val (.int c533), .val (.int c534), .val (.int c535), .unset, .unset] [(.ref b607), (.ref b606), (.ref b606)]))
          have V612_ : OView Z _ h610 (((b606, Sum.inl ("java/lang/String", ns_String, [.null, (.int (0 : Int32))])) : Addr × OObj) :: ((b607, Sum.inr (.char, [(.int c533), (.int c534), (.int c535)])) : Addr × OObj) :: []) := (V610.bring 1 rfl)
          obtain ⟨_, _, ⟨T612, L612, k612, n612⟩, -, X612, ⟨Lc612, hQ612, l612, y612, z612⟩, st612⟩ := X610.specialBack hx (y := (⟨"java/lang/String", "<init>", "([C)V"⟩ : MethodName)) rfl hown (mvT hZ (hw _ (List.mem_of_getElem? (i := 10) rfl))) (mvT hZ (hw _ (List.mem_of_getElem? (i := 11) rfl))) (mvT hZ (hw _ (List.mem_of_getElem? (i := 12) rfl))) (by decide) (backOf (W := 1) (rm_i1_30 l Z a0 hw [] b606 b607 G c533 c534 c535 h610 n0 _ Z610 S0 hG SA SH SL hu611 w533 V612_ O610) hZ (hw _ (List.mem_of_getElem? (i := 12) rfl)) (hw _ (List.mem_of_getElem? (i := 8) rfl)) (by decide) (by decide)) (g := (mkF m 122 #[.val (.int p0), .val (.int p1), .val (.int p2), .val (.int p3), .val (.int ln), .val (.int c533), .val (.int c534), .val (.int c535), .unset, .unset] [(.ref b607), (.ref b606), (.ref b606)])) rfl (by rw [hml]; rfl) (Steps.refl _) (a := b606) (argsL := [(.ref b607)]) (rest := [(.ref b606)]) (lenOf pd_16 rfl) rfl (by show 2 * 0 + _ ≤ _; exact Nat.le_of_eq rfl) (hb hby at_122) (fun _ _ => ⟨rfl, e610, Nat.le_of_ble_eq_true rfl, Nat.le_of_ble_eq_true rfl⟩)
          dsimp only [Pt.U, Pt.locs, Pt.cells, Pt.slots] at X612 l612 y612 z612 st612 hQ612
          rw [l612, y612, z612] at X612
          obtain ⟨rfl, N612q, b612, V612, O612q⟩ := hQ612
          have N612 := Fr.app N610 N612q
          have V612v : OView Z n0 T612.heap (((b606, Sum.inl ("java/lang/String", ns_String, [(.ref b612), (.int (1 : Int32))])) : Addr × OObj) :: ((b612, Sum.inr (.byte, [(.int (hb' c533)), (.int (lb' c533)), (.int (hb' c534)), (.int (lb' c534)), (.int (hb' c535)), (.int (lb' c535))])) : Addr × OObj) :: ((b607, Sum.inr (.char, [(.int c533), (.int c534), (.int c535)])) : Addr × OObj) :: []) := V612
          have Z612 : n0 ≤ T612.heap.size := V612v.big 0 rfl
          refine OGets.after st612 ?_
          refine OGets.step (fun _ => XS.astore X612.here hx rfl (hb hby at_125) rfl rfl (l' := #[.val (.int p0), .val (.int p1), .val (.int p2), .val (.int p3), .val (.int ln), .val (.int c533), .val (.int c534), .val (.int c535), .val (.ref b606), .unset]) rfl) ?_
          refine OGets.step (fun _ => XS.iload X612.here hx rfl (hb hby at_127) rfl) ?_
          refine OGets.step (fun _ => XS.iconst X612.here hx rfl (hb hby at_129)) ?_
          refine OGets.step (fun _ => XS.icmpYes X612.here hx rfl (pc0 := 130) (pc' := 140) rfl (hb hby at_130) rfl (feq (hc46_545 : ¬ (ln = (1 : Int32)))).2 (by decide) (by decide)) ?_
          refine OGets.step (fun _ => XS.iload X612.here hx rfl (hb hby at_140) rfl) ?_
          show OGets p e below _ (T612.setTop (mkF m 142 #[.val (.int p0), .val (.int p1), .val (.int p2), .val (.int p3), .val (.int ln), .val (.int c533), .val (.int c534), .val (.int c535), .val (.ref b606), .unset] [(.int ln)]))
          refine OGets.step (fun _ => XS.iconst X612.here hx rfl (hb hby at_142)) ?_
          refine OGets.step (fun _ => XS.icmpYes X612.here hx rfl (pc0 := 143) (pc' := 164) rfl (hb hby at_143) rfl (feq (hc72_567 : ¬ (ln = (2 : Int32)))).2 (by decide) (by decide)) ?_
          refine OGets.step (fun _ => XS.iconst X612.here hx rfl (hb hby at_164)) ?_
          refine OGets.step (fun _ => XS.istore X612.here hx rfl (hb hby at_165) rfl (l' := #[.val (.int p0), .val (.int p1), .val (.int p2), .val (.int p3), .val (.int ln), .val (.int c533), .val (.int c534), .val (.int c535), .val (.ref b606), .val (.int (0 : Int32))]) rfl) ?_
          refine OGets.step (fun _ => XS.aload X612.here hx rfl (hb hby at_167) rfl rfl) ?_
          have R615 : CHr Z EL s.vm h0 s.vm T612.heap := CHr.ext (by rw [← hZh]; exact O612q.2) hCH
          show OGets p e below _ (T612.setTop (mkF m 169 #[.val (.int p0), .val (.int p1), .val (.int p2), .val (.int p3), .val (.int ln), .val (.int c533), .val (.int c534), .val (.int c535), .val (.ref b606), .val (.int (0 : Int32))] [(.ref b606)]))
          have Xw616 : Stand p l e _ (s.setVm s.vm) m #[(.int p0), (.int p1), (.int p2), (.int p3)] below meth c T612 _ _ _ := X612
          obtain ⟨_, _, ⟨T616, L616, k616, n616⟩, -, X616', S616', hgr616, ⟨Lc616, hQ616, l616, y616, z616, hC616⟩, st616⟩ := callSS Xw616 hx (y := (⟨"com/example/hermod/hermod/PercentEncoding", "isDotSegment", "(Ljava/lang/String;)Z"⟩ : MethodName)) hown (mvT hZ (hw _ (List.mem_of_getElem? (i := 28) rfl))) (mvT hZ (hw _ (List.mem_of_getElem? (i := 29) rfl))) (mvT hZ (hw _ (List.mem_of_getElem? (i := 30) rfl))) (mvT hZ (hw _ (List.mem_of_getElem? (i := 31) rfl))) (by decide) (backOfSH (EL := EL) (W := 0) (rm_idu l Z a0 hw [] b606 b612 G EL T612.heap n0 _ Z612 (S0.ext O612q.2) hG hm91 hm97 hEL V612v.read) hZ (hw _ (List.mem_of_getElem? (i := 31) rfl)) (hw _ (List.mem_of_getElem? (i := 30) rfl)) (by decide) (by decide) hEL R615.1) (g := (mkF m 169 #[.val (.int p0), .val (.int p1), .val (.int p2), .val (.int p3), .val (.int ln), .val (.int c533), .val (.int c534), .val (.int c535), .val (.ref b606), .val (.int (0 : Int32))] [(.ref b606)])) rfl (by rw [hml]; rfl) (argsL := [(.ref b606)]) (rest := []) (lenOf pd_17 rfl) rfl (by show 2 * 0 + _ ≤ _; exact Nat.le_of_eq rfl) (hb hby at_169) (fun _ _ => ⟨rfl, rfl, Nat.le_of_ble_eq_true rfl, Nat.le_of_ble_eq_true rfl⟩)
          dsimp only [Pt.U, Pt.locs, Pt.cells, Pt.slots] at X616' S616' hgr616 l616 y616 z616 st616 hQ616 hC616
          rw [l616, y616, z616] at X616'
          have X616 : Stand p l e _ (s.setVm T616.vm) m #[(.int p0), (.int p1), (.int p2), (.int p3)] below meth c T616 _ _ _ := X616'
          have S616 : s.Since T616.vm T616.heap.size := S616'
          have hZ616 : Z.Warmed39 (s.setVm T616.vm).vm := State.Warmed39.trans (t := (s.setVm s.vm)) hZ S616'.1
          have hown616 : (s.setVm T616.vm).vm.findClass "com/example/hermod/hermod/PercentEncodingIsDotSegmentPinLaw" = some m.cls := by rw [show (s.setVm T616.vm).vm = T616.vm from rfl, S616'.1.alike.findClass]; exact hown
          obtain ⟨rfl, rfl, E616⟩ := hQ616
          have N616 := Fr.app N612 (Fr.nil n0)
          have R616 : CHr Z EL s.vm h0 T616.vm T616.heap := R615.trans hC616
          refine OGets.after st616 ?_
          refine OGets.step (fun _ => XS.iload X616.here hx rfl (hb hby at_172) rfl) ?_
          refine OGets.step (fun _ => XS.icmpNo X616.here hx rfl (hb hby at_174) rfl (teq (rfl : (0 : Int32) = (0 : Int32))).2) ?_
          refine OGets.step (fun _ => XS.iconst X616.here hx rfl (hb hby at_177)) ?_
          refine OGets.step (fun _ => XS.goto X616.here hx rfl (pc0 := 178) (pc' := 182) rfl (hb hby at_178) (by decide) (by decide)) ?_
          refine OGets.retNW X616 hx hlk (t := .boolean) Bd.returns (by simp) (hb hby at_182) S616 (Nat.le_refl _) (by rw [hh]; exact R616.trans (CHv.at X616 hZ616 hEL R616.1)) (Nat.le_of_ble_eq_true rfl) (Nat.le_of_ble_eq_true rfl) ?_
          exact ⟨rfl, N616⟩
        · by_cases hu618 : (255 : Int32) < c534
          · show OGets p e below _ (T610.setTop (mkF m 122 #[.val (.int p0), .val (.int p1), .val (.int p2), .val (.int p3), .val (.int ln), .val (.int c533), .val (.int c534), .val (.int c535), .unset, .unset] [(.ref b607), (.ref b606), (.ref b606)]))
            have V619_ : OView Z _ h610 (((b606, Sum.inl ("java/lang/String", ns_String, [.null, (.int (0 : Int32))])) : Addr × OObj) :: ((b607, Sum.inr (.char, [(.int c533), (.int c534), (.int c535)])) : Addr × OObj) :: []) := (V610.bring 1 rfl)
            obtain ⟨_, _, ⟨T619, L619, k619, n619⟩, -, X619, ⟨Lc619, hQ619, l619, y619, z619⟩, st619⟩ := X610.specialBack hx (y := (⟨"java/lang/String", "<init>", "([C)V"⟩ : MethodName)) rfl hown (mvT hZ (hw _ (List.mem_of_getElem? (i := 10) rfl))) (mvT hZ (hw _ (List.mem_of_getElem? (i := 11) rfl))) (mvT hZ (hw _ (List.mem_of_getElem? (i := 12) rfl))) (by decide) (backOf (W := 1) (rm_i1_31 l Z a0 hw [] b606 b607 G c533 c534 c535 h610 n0 _ Z610 S0 hG SA SH SL hu611 hu618 w534 V619_ O610) hZ (hw _ (List.mem_of_getElem? (i := 12) rfl)) (hw _ (List.mem_of_getElem? (i := 8) rfl)) (by decide) (by decide)) (g := (mkF m 122 #[.val (.int p0), .val (.int p1), .val (.int p2), .val (.int p3), .val (.int ln), .val (.int c533), .val (.int c534), .val (.int c535), .unset, .unset] [(.ref b607), (.ref b606), (.ref b606)])) rfl (by rw [hml]; rfl) (Steps.refl _) (a := b606) (argsL := [(.ref b607)]) (rest := [(.ref b606)]) (lenOf pd_16 rfl) rfl (by show 2 * 0 + _ ≤ _; exact Nat.le_of_eq rfl) (hb hby at_122) (fun _ _ => ⟨rfl, e610, Nat.le_of_ble_eq_true rfl, Nat.le_of_ble_eq_true rfl⟩)
            dsimp only [Pt.U, Pt.locs, Pt.cells, Pt.slots] at X619 l619 y619 z619 st619 hQ619
            rw [l619, y619, z619] at X619
            obtain ⟨rfl, N619q, b619, V619, O619q⟩ := hQ619
            have N619 := Fr.app N610 N619q
            have V619v : OView Z n0 T619.heap (((b606, Sum.inl ("java/lang/String", ns_String, [(.ref b619), (.int (1 : Int32))])) : Addr × OObj) :: ((b619, Sum.inr (.byte, [(.int (hb' c533)), (.int (lb' c533)), (.int (hb' c534)), (.int (lb' c534)), (.int (hb' c535)), (.int (lb' c535))])) : Addr × OObj) :: ((b607, Sum.inr (.char, [(.int c533), (.int c534), (.int c535)])) : Addr × OObj) :: []) := V619
            have Z619 : n0 ≤ T619.heap.size := V619v.big 0 rfl
            refine OGets.after st619 ?_
            refine OGets.step (fun _ => XS.astore X619.here hx rfl (hb hby at_125) rfl rfl (l' := #[.val (.int p0), .val (.int p1), .val (.int p2), .val (.int p3), .val (.int ln), .val (.int c533), .val (.int c534), .val (.int c535), .val (.ref b606), .unset]) rfl) ?_
            refine OGets.step (fun _ => XS.iload X619.here hx rfl (hb hby at_127) rfl) ?_
            refine OGets.step (fun _ => XS.iconst X619.here hx rfl (hb hby at_129)) ?_
            refine OGets.step (fun _ => XS.icmpYes X619.here hx rfl (pc0 := 130) (pc' := 140) rfl (hb hby at_130) rfl (feq (hc46_545 : ¬ (ln = (1 : Int32)))).2 (by decide) (by decide)) ?_
            refine OGets.step (fun _ => XS.iload X619.here hx rfl (hb hby at_140) rfl) ?_
            show OGets p e below _ (T619.setTop (mkF m 142 #[.val (.int p0), .val (.int p1), .val (.int p2), .val (.int p3), .val (.int ln), .val (.int c533), .val (.int c534), .val (.int c535), .val (.ref b606), .unset] [(.int ln)]))
            refine OGets.step (fun _ => XS.iconst X619.here hx rfl (hb hby at_142)) ?_
            refine OGets.step (fun _ => XS.icmpYes X619.here hx rfl (pc0 := 143) (pc' := 164) rfl (hb hby at_143) rfl (feq (hc72_567 : ¬ (ln = (2 : Int32)))).2 (by decide) (by decide)) ?_
            refine OGets.step (fun _ => XS.iconst X619.here hx rfl (hb hby at_164)) ?_
            refine OGets.step (fun _ => XS.istore X619.here hx rfl (hb hby at_165) rfl (l' := #[.val (.int p0), .val (.int p1), .val (.int p2), .val (.int p3), .val (.int ln), .val (.int c533), .val (.int c534), .val (.int c535), .val (.ref b606), .val (.int (0 : Int32))]) rfl) ?_
            refine OGets.step (fun _ => XS.aload X619.here hx rfl (hb hby at_167) rfl rfl) ?_
            have R622 : CHr Z EL s.vm h0 s.vm T619.heap := CHr.ext (by rw [← hZh]; exact O619q.2) hCH
            show OGets p e below _ (T619.setTop (mkF m 169 #[.val (.int p0), .val (.int p1), .val (.int p2), .val (.int p3), .val (.int ln), .val (.int c533), .val (.int c534), .val (.int c535), .val (.ref b606), .val (.int (0 : Int32))] [(.ref b606)]))
            have Xw623 : Stand p l e _ (s.setVm s.vm) m #[(.int p0), (.int p1), (.int p2), (.int p3)] below meth c T619 _ _ _ := X619
            obtain ⟨_, _, ⟨T623, L623, k623, n623⟩, -, X623', S623', hgr623, ⟨Lc623, hQ623, l623, y623, z623, hC623⟩, st623⟩ := callSS Xw623 hx (y := (⟨"com/example/hermod/hermod/PercentEncoding", "isDotSegment", "(Ljava/lang/String;)Z"⟩ : MethodName)) hown (mvT hZ (hw _ (List.mem_of_getElem? (i := 28) rfl))) (mvT hZ (hw _ (List.mem_of_getElem? (i := 29) rfl))) (mvT hZ (hw _ (List.mem_of_getElem? (i := 30) rfl))) (mvT hZ (hw _ (List.mem_of_getElem? (i := 31) rfl))) (by decide) (backOfSH (EL := EL) (W := 0) (rm_idu l Z a0 hw [] b606 b619 G EL T619.heap n0 _ Z619 (S0.ext O619q.2) hG hm91 hm97 hEL V619v.read) hZ (hw _ (List.mem_of_getElem? (i := 31) rfl)) (hw _ (List.mem_of_getElem? (i := 30) rfl)) (by decide) (by decide) hEL R622.1) (g := (mkF m 169 #[.val (.int p0), .val (.int p1), .val (.int p2), .val (.int p3), .val (.int ln), .val (.int c533), .val (.int c534), .val (.int c535), .val (.ref b606), .val (.int (0 : Int32))] [(.ref b606)])) rfl (by rw [hml]; rfl) (argsL := [(.ref b606)]) (rest := []) (lenOf pd_17 rfl) rfl (by show 2 * 0 + _ ≤ _; exact Nat.le_of_eq rfl) (hb hby at_169) (fun _ _ => ⟨rfl, rfl, Nat.le_of_ble_eq_true rfl, Nat.le_of_ble_eq_true rfl⟩)
            dsimp only [Pt.U, Pt.locs, Pt.cells, Pt.slots] at X623' S623' hgr623 l623 y623 z623 st623 hQ623 hC623
            rw [l623, y623, z623] at X623'
            have X623 : Stand p l e _ (s.setVm T623.vm) m #[(.int p0), (.int p1), (.int p2), (.int p3)] below meth c T623 _ _ _ := X623'
            have S623 : s.Since T623.vm T623.heap.size := S623'
            have hZ623 : Z.Warmed39 (s.setVm T623.vm).vm := State.Warmed39.trans (t := (s.setVm s.vm)) hZ S623'.1
            have hown623 : (s.setVm T623.vm).vm.findClass "com/example/hermod/hermod/PercentEncodingIsDotSegmentPinLaw" = some m.cls := by rw [show (s.setVm T623.vm).vm = T623.vm from rfl, S623'.1.alike.findClass]; exact hown
            obtain ⟨rfl, rfl, E623⟩ := hQ623
            have N623 := Fr.app N619 (Fr.nil n0)
            have R623 : CHr Z EL s.vm h0 T623.vm T623.heap := R622.trans hC623
            refine OGets.after st623 ?_
            refine OGets.step (fun _ => XS.iload X623.here hx rfl (hb hby at_172) rfl) ?_
            refine OGets.step (fun _ => XS.icmpNo X623.here hx rfl (hb hby at_174) rfl (teq (rfl : (0 : Int32) = (0 : Int32))).2) ?_
            refine OGets.step (fun _ => XS.iconst X623.here hx rfl (hb hby at_177)) ?_
            refine OGets.step (fun _ => XS.goto X623.here hx rfl (pc0 := 178) (pc' := 182) rfl (hb hby at_178) (by decide) (by decide)) ?_
            refine OGets.retNW X623 hx hlk (t := .boolean) Bd.returns (by simp) (hb hby at_182) S623 (Nat.le_refl _) (by rw [hh]; exact R623.trans (CHv.at X623 hZ623 hEL R623.1)) (Nat.le_of_ble_eq_true rfl) (Nat.le_of_ble_eq_true rfl) ?_
            exact ⟨rfl, N623⟩
          · by_cases hu625 : (255 : Int32) < c535
            · show OGets p e below _ (T610.setTop (mkF m 122 #[.val (.int p0), .val (.int p1), .val (.int p2), .val (.int p3), .val (.int ln), .val (.int c533), .val (.int c534), .val (.int c535), .unset, .unset] [(.ref b607), (.ref b606), (.ref b606)]))
              have V626_ : OView Z _ h610 (((b606, Sum.inl ("java/lang/String", ns_String, [.null, (.int (0 : Int32))])) : Addr × OObj) :: ((b607, Sum.inr (.char, [(.int c533), (.int c534), (.int c535)])) : Addr × OObj) :: []) := (V610.bring 1 rfl)
              obtain ⟨_, _, ⟨T626, L626, k626, n626⟩, -, X626, ⟨Lc626, hQ626, l626, y626, z626⟩, st626⟩ := X610.specialBack hx (y := (⟨"java/lang/String", "<init>", "([C)V"⟩ : MethodName)) rfl hown (mvT hZ (hw _ (List.mem_of_getElem? (i := 10) rfl))) (mvT hZ (hw _ (List.mem_of_getElem? (i := 11) rfl))) (mvT hZ (hw _ (List.mem_of_getElem? (i := 12) rfl))) (by decide) (backOf (W := 1) (rm_i1_32 l Z a0 hw [] b606 b607 G c533 c534 c535 h610 n0 _ Z610 S0 hG SA SH SL hu611 hu618 hu625 w535 V626_ O610) hZ (hw _ (List.mem_of_getElem? (i := 12) rfl)) (hw _ (List.mem_of_getElem? (i := 8) rfl)) (by decide) (by decide)) (g := (mkF m 122 #[.val (.int p0), .val (.int p1), .val (.int p2), .val (.int p3), .val (.int ln), .val (.int c533), .val (.int c534), .val (.int c535), .unset, .unset] [(.ref b607), (.ref b606), (.ref b606)])) rfl (by rw [hml]; rfl) (Steps.refl _) (a := b606) (argsL := [(.ref b607)]) (rest := [(.ref b606)]) (lenOf pd_16 rfl) rfl (by show 2 * 0 + _ ≤ _; exact Nat.le_of_eq rfl) (hb hby at_122) (fun _ _ => ⟨rfl, e610, Nat.le_of_ble_eq_true rfl, Nat.le_of_ble_eq_true rfl⟩)
              dsimp only [Pt.U, Pt.locs, Pt.cells, Pt.slots] at X626 l626 y626 z626 st626 hQ626
              rw [l626, y626, z626] at X626
              obtain ⟨rfl, N626q, b626, V626, O626q⟩ := hQ626
              have N626 := Fr.app N610 N626q
              have V626v : OView Z n0 T626.heap (((b606, Sum.inl ("java/lang/String", ns_String, [(.ref b626), (.int (1 : Int32))])) : Addr × OObj) :: ((b626, Sum.inr (.byte, [(.int (hb' c533)), (.int (lb' c533)), (.int (hb' c534)), (.int (lb' c534)), (.int (hb' c535)), (.int (lb' c535))])) : Addr × OObj) :: ((b607, Sum.inr (.char, [(.int c533), (.int c534), (.int c535)])) : Addr × OObj) :: []) := V626
              have Z626 : n0 ≤ T626.heap.size := V626v.big 0 rfl
              refine OGets.after st626 ?_
              refine OGets.step (fun _ => XS.astore X626.here hx rfl (hb hby at_125) rfl rfl (l' := #[.val (.int p0), .val (.int p1), .val (.int p2), .val (.int p3), .val (.int ln), .val (.int c533), .val (.int c534), .val (.int c535), .val (.ref b606), .unset]) rfl) ?_
              refine OGets.step (fun _ => XS.iload X626.here hx rfl (hb hby at_127) rfl) ?_
              refine OGets.step (fun _ => XS.iconst X626.here hx rfl (hb hby at_129)) ?_
              refine OGets.step (fun _ => XS.icmpYes X626.here hx rfl (pc0 := 130) (pc' := 140) rfl (hb hby at_130) rfl (feq (hc46_545 : ¬ (ln = (1 : Int32)))).2 (by decide) (by decide)) ?_
              refine OGets.step (fun _ => XS.iload X626.here hx rfl (hb hby at_140) rfl) ?_
              show OGets p e below _ (T626.setTop (mkF m 142 #[.val (.int p0), .val (.int p1), .val (.int p2), .val (.int p3), .val (.int ln), .val (.int c533), .val (.int c534), .val (.int c535), .val (.ref b606), .unset] [(.int ln)]))
              refine OGets.step (fun _ => XS.iconst X626.here hx rfl (hb hby at_142)) ?_
              refine OGets.step (fun _ => XS.icmpYes X626.here hx rfl (pc0 := 143) (pc' := 164) rfl (hb hby at_143) rfl (feq (hc72_567 : ¬ (ln = (2 : Int32)))).2 (by decide) (by decide)) ?_
              refine OGets.step (fun _ => XS.iconst X626.here hx rfl (hb hby at_164)) ?_
              refine OGets.step (fun _ => XS.istore X626.here hx rfl (hb hby at_165) rfl (l' := #[.val (.int p0), .val (.int p1), .val (.int p2), .val (.int p3), .val (.int ln), .val (.int c533), .val (.int c534), .val (.int c535), .val (.ref b606), .val (.int (0 : Int32))]) rfl) ?_
              refine OGets.step (fun _ => XS.aload X626.here hx rfl (hb hby at_167) rfl rfl) ?_
              have R629 : CHr Z EL s.vm h0 s.vm T626.heap := CHr.ext (by rw [← hZh]; exact O626q.2) hCH
              show OGets p e below _ (T626.setTop (mkF m 169 #[.val (.int p0), .val (.int p1), .val (.int p2), .val (.int p3), .val (.int ln), .val (.int c533), .val (.int c534), .val (.int c535), .val (.ref b606), .val (.int (0 : Int32))] [(.ref b606)]))
              have Xw630 : Stand p l e _ (s.setVm s.vm) m #[(.int p0), (.int p1), (.int p2), (.int p3)] below meth c T626 _ _ _ := X626
              obtain ⟨_, _, ⟨T630, L630, k630, n630⟩, -, X630', S630', hgr630, ⟨Lc630, hQ630, l630, y630, z630, hC630⟩, st630⟩ := callSS Xw630 hx (y := (⟨"com/example/hermod/hermod/PercentEncoding", "isDotSegment", "(Ljava/lang/String;)Z"⟩ : MethodName)) hown (mvT hZ (hw _ (List.mem_of_getElem? (i := 28) rfl))) (mvT hZ (hw _ (List.mem_of_getElem? (i := 29) rfl))) (mvT hZ (hw _ (List.mem_of_getElem? (i := 30) rfl))) (mvT hZ (hw _ (List.mem_of_getElem? (i := 31) rfl))) (by decide) (backOfSH (EL := EL) (W := 0) (rm_idu l Z a0 hw [] b606 b626 G EL T626.heap n0 _ Z626 (S0.ext O626q.2) hG hm91 hm97 hEL V626v.read) hZ (hw _ (List.mem_of_getElem? (i := 31) rfl)) (hw _ (List.mem_of_getElem? (i := 30) rfl)) (by decide) (by decide) hEL R629.1) (g := (mkF m 169 #[.val (.int p0), .val (.int p1), .val (.int p2), .val (.int p3), .val (.int ln), .val (.int c533), .val (.int c534), .val (.int c535), .val (.ref b606), .val (.int (0 : Int32))] [(.ref b606)])) rfl (by rw [hml]; rfl) (argsL := [(.ref b606)]) (rest := []) (lenOf pd_17 rfl) rfl (by show 2 * 0 + _ ≤ _; exact Nat.le_of_eq rfl) (hb hby at_169) (fun _ _ => ⟨rfl, rfl, Nat.le_of_ble_eq_true rfl, Nat.le_of_ble_eq_true rfl⟩)
              dsimp only [Pt.U, Pt.locs, Pt.cells, Pt.slots] at X630' S630' hgr630 l630 y630 z630 st630 hQ630 hC630
              rw [l630, y630, z630] at X630'
              have X630 : Stand p l e _ (s.setVm T630.vm) m #[(.int p0), (.int p1), (.int p2), (.int p3)] below meth c T630 _ _ _ := X630'
              have S630 : s.Since T630.vm T630.heap.size := S630'
              have hZ630 : Z.Warmed39 (s.setVm T630.vm).vm := State.Warmed39.trans (t := (s.setVm s.vm)) hZ S630'.1
              have hown630 : (s.setVm T630.vm).vm.findClass "com/example/hermod/hermod/PercentEncodingIsDotSegmentPinLaw" = some m.cls := by rw [show (s.setVm T630.vm).vm = T630.vm from rfl, S630'.1.alike.findClass]; exact hown
              obtain ⟨rfl, rfl, E630⟩ := hQ630
              have N630 := Fr.app N626 (Fr.nil n0)
              have R630 : CHr Z EL s.vm h0 T630.vm T630.heap := R629.trans hC630
              refine OGets.after st630 ?_
              refine OGets.step (fun _ => XS.iload X630.here hx rfl (hb hby at_172) rfl) ?_
              refine OGets.step (fun _ => XS.icmpNo X630.here hx rfl (hb hby at_174) rfl (teq (rfl : (0 : Int32) = (0 : Int32))).2) ?_
              refine OGets.step (fun _ => XS.iconst X630.here hx rfl (hb hby at_177)) ?_
              refine OGets.step (fun _ => XS.goto X630.here hx rfl (pc0 := 178) (pc' := 182) rfl (hb hby at_178) (by decide) (by decide)) ?_
              refine OGets.retNW X630 hx hlk (t := .boolean) Bd.returns (by simp) (hb hby at_182) S630 (Nat.le_refl _) (by rw [hh]; exact R630.trans (CHv.at X630 hZ630 hEL R630.1)) (Nat.le_of_ble_eq_true rfl) (Nat.le_of_ble_eq_true rfl) ?_
              exact ⟨rfl, N630⟩
            · show OGets p e below _ (T610.setTop (mkF m 122 #[.val (.int p0), .val (.int p1), .val (.int p2), .val (.int p3), .val (.int ln), .val (.int c533), .val (.int c534), .val (.int c535), .unset, .unset] [(.ref b607), (.ref b606), (.ref b606)]))
              have V632_ : OView Z _ h610 (((b606, Sum.inl ("java/lang/String", ns_String, [.null, (.int (0 : Int32))])) : Addr × OObj) :: ((b607, Sum.inr (.char, [(.int c533), (.int c534), (.int c535)])) : Addr × OObj) :: []) := (V610.bring 1 rfl)
              obtain ⟨_, _, ⟨T632, L632, k632, n632⟩, -, X632, ⟨Lc632, hQ632, l632, y632, z632⟩, st632⟩ := X610.specialBack hx (y := (⟨"java/lang/String", "<init>", "([C)V"⟩ : MethodName)) rfl hown (mvT hZ (hw _ (List.mem_of_getElem? (i := 10) rfl))) (mvT hZ (hw _ (List.mem_of_getElem? (i := 11) rfl))) (mvT hZ (hw _ (List.mem_of_getElem? (i := 12) rfl))) (by decide) (backOf (W := 1) (rm_i1_33 l Z a0 hw [] b606 b607 G c533 c534 c535 h610 n0 _ Z610 S0 hG SA SH SL hu611 hu618 hu625 V632_ O610) hZ (hw _ (List.mem_of_getElem? (i := 12) rfl)) (hw _ (List.mem_of_getElem? (i := 8) rfl)) (by decide) (by decide)) (g := (mkF m 122 #[.val (.int p0), .val (.int p1), .val (.int p2), .val (.int p3), .val (.int ln), .val (.int c533), .val (.int c534), .val (.int c535), .unset, .unset] [(.ref b607), (.ref b606), (.ref b606)])) rfl (by rw [hml]; rfl) (Steps.refl _) (a := b606) (argsL := [(.ref b607)]) (rest := [(.ref b606)]) (lenOf pd_16 rfl) rfl (by show 2 * 0 + _ ≤ _; exact Nat.le_of_eq rfl) (hb hby at_122) (fun _ _ => ⟨rfl, e610, Nat.le_of_ble_eq_true rfl, Nat.le_of_ble_eq_true rfl⟩)
              dsimp only [Pt.U, Pt.locs, Pt.cells, Pt.slots] at X632 l632 y632 z632 st632 hQ632
              rw [l632, y632, z632] at X632
              obtain ⟨rfl, N632q, b632, V632, O632q⟩ := hQ632
              have N632 := Fr.app N610 N632q
              have V632v : OView Z n0 T632.heap (((b606, Sum.inl ("java/lang/String", ns_String, [(.ref b632), (.int (0 : Int32))])) : Addr × OObj) :: ((b632, Sum.inr (.byte, [(.int (yb c533)), (.int (yb c534)), (.int (yb c535))])) : Addr × OObj) :: ((b607, Sum.inr (.char, [(.int c533), (.int c534), (.int c535)])) : Addr × OObj) :: []) := V632
              have Z632 : n0 ≤ T632.heap.size := V632v.big 0 rfl
              refine OGets.after st632 ?_
              refine OGets.step (fun _ => XS.astore X632.here hx rfl (hb hby at_125) rfl rfl (l' := #[.val (.int p0), .val (.int p1), .val (.int p2), .val (.int p3), .val (.int ln), .val (.int c533), .val (.int c534), .val (.int c535), .val (.ref b606), .unset]) rfl) ?_
              refine OGets.step (fun _ => XS.iload X632.here hx rfl (hb hby at_127) rfl) ?_
              refine OGets.step (fun _ => XS.iconst X632.here hx rfl (hb hby at_129)) ?_
              refine OGets.step (fun _ => XS.icmpYes X632.here hx rfl (pc0 := 130) (pc' := 140) rfl (hb hby at_130) rfl (feq (hc46_545 : ¬ (ln = (1 : Int32)))).2 (by decide) (by decide)) ?_
              refine OGets.step (fun _ => XS.iload X632.here hx rfl (hb hby at_140) rfl) ?_
              show OGets p e below _ (T632.setTop (mkF m 142 #[.val (.int p0), .val (.int p1), .val (.int p2), .val (.int p3), .val (.int ln), .val (.int c533), .val (.int c534), .val (.int c535), .val (.ref b606), .unset] [(.int ln)]))
              refine OGets.step (fun _ => XS.iconst X632.here hx rfl (hb hby at_142)) ?_
              refine OGets.step (fun _ => XS.icmpYes X632.here hx rfl (pc0 := 143) (pc' := 164) rfl (hb hby at_143) rfl (feq (hc72_567 : ¬ (ln = (2 : Int32)))).2 (by decide) (by decide)) ?_
              refine OGets.step (fun _ => XS.iconst X632.here hx rfl (hb hby at_164)) ?_
              refine OGets.step (fun _ => XS.istore X632.here hx rfl (hb hby at_165) rfl (l' := #[.val (.int p0), .val (.int p1), .val (.int p2), .val (.int p3), .val (.int ln), .val (.int c533), .val (.int c534), .val (.int c535), .val (.ref b606), .val (.int (0 : Int32))]) rfl) ?_
              refine OGets.step (fun _ => XS.aload X632.here hx rfl (hb hby at_167) rfl rfl) ?_
              have R635 : CHr Z EL s.vm h0 s.vm T632.heap := CHr.ext (by rw [← hZh]; exact O632q.2) hCH
              show OGets p e below _ (T632.setTop (mkF m 169 #[.val (.int p0), .val (.int p1), .val (.int p2), .val (.int p3), .val (.int ln), .val (.int c533), .val (.int c534), .val (.int c535), .val (.ref b606), .val (.int (0 : Int32))] [(.ref b606)]))
              have Xw636 : Stand p l e _ (s.setVm s.vm) m #[(.int p0), (.int p1), (.int p2), (.int p3)] below meth c T632 _ _ _ := X632
              obtain ⟨_, _, ⟨T636, L636, k636, n636⟩, -, X636', S636', hgr636, ⟨Lc636, hQ636, l636, y636, z636, hC636⟩, st636⟩ := callSS Xw636 hx (y := (⟨"com/example/hermod/hermod/PercentEncoding", "isDotSegment", "(Ljava/lang/String;)Z"⟩ : MethodName)) hown (mvT hZ (hw _ (List.mem_of_getElem? (i := 28) rfl))) (mvT hZ (hw _ (List.mem_of_getElem? (i := 29) rfl))) (mvT hZ (hw _ (List.mem_of_getElem? (i := 30) rfl))) (mvT hZ (hw _ (List.mem_of_getElem? (i := 31) rfl))) (by decide) (backOfSH (EL := EL) (W := 0) (rm_id3 l Z a0 hw [] b606 b632 G (yb c533) (yb c534) (yb c535) EL T632.heap n0 _ Z632 (S0.ext O632q.2) hG hm91 hm97 hEL V632v.read) hZ (hw _ (List.mem_of_getElem? (i := 31) rfl)) (hw _ (List.mem_of_getElem? (i := 30) rfl)) (by decide) (by decide) hEL R635.1) (g := (mkF m 169 #[.val (.int p0), .val (.int p1), .val (.int p2), .val (.int p3), .val (.int ln), .val (.int c533), .val (.int c534), .val (.int c535), .val (.ref b606), .val (.int (0 : Int32))] [(.ref b606)])) rfl (by rw [hml]; rfl) (argsL := [(.ref b606)]) (rest := []) (lenOf pd_17 rfl) rfl (by show 2 * 0 + _ ≤ _; exact Nat.le_of_eq rfl) (hb hby at_169) (fun _ _ => ⟨rfl, rfl, Nat.le_of_ble_eq_true rfl, Nat.le_of_ble_eq_true rfl⟩)
              dsimp only [Pt.U, Pt.locs, Pt.cells, Pt.slots] at X636' S636' hgr636 l636 y636 z636 st636 hQ636 hC636
              rw [l636, y636, z636] at X636'
              have X636 : Stand p l e _ (s.setVm T636.vm) m #[(.int p0), (.int p1), (.int p2), (.int p3)] below meth c T636 _ _ _ := X636'
              have S636 : s.Since T636.vm T636.heap.size := S636'
              have hZ636 : Z.Warmed39 (s.setVm T636.vm).vm := State.Warmed39.trans (t := (s.setVm s.vm)) hZ S636'.1
              have hown636 : (s.setVm T636.vm).vm.findClass "com/example/hermod/hermod/PercentEncodingIsDotSegmentPinLaw" = some m.cls := by rw [show (s.setVm T636.vm).vm = T636.vm from rfl, S636'.1.alike.findClass]; exact hown
              obtain ⟨rfl, rfl, E636⟩ := hQ636
              have N636 := Fr.app N632 (Fr.nil n0)
              have R636 : CHr Z EL s.vm h0 T636.vm T636.heap := R635.trans hC636
              refine OGets.after st636 ?_
              refine OGets.step (fun _ => XS.iload X636.here hx rfl (hb hby at_172) rfl) ?_
              refine OGets.step (fun _ => XS.icmpNo X636.here hx rfl (hb hby at_174) rfl (teq (rfl : (0 : Int32) = (0 : Int32))).2) ?_
              refine OGets.step (fun _ => XS.iconst X636.here hx rfl (hb hby at_177)) ?_
              refine OGets.step (fun _ => XS.goto X636.here hx rfl (pc0 := 178) (pc' := 182) rfl (hb hby at_178) (by decide) (by decide)) ?_
              refine OGets.retNW X636 hx hlk (t := .boolean) Bd.returns (by simp) (hb hby at_182) S636 (Nat.le_refl _) (by rw [hh]; exact R636.trans (CHv.at X636 hZ636 hEL R636.1)) (Nat.le_of_ble_eq_true rfl) (Nat.le_of_ble_eq_true rfl) ?_
              exact ⟨rfl, N636⟩
theorem own_steq {s : State} {args : Array Value} {C f d : String} {k : Int32} (q : (Jvm.Cond.eq (Jvm.Term.static C f d) (Jvm.Term.int k)).value args s none s [] = some true) (i : (Jvm.Cond.initializedFor C f d).before args s = true) : Sta s s.heap C f d (.int k) := by
  obtain ⟨x, y, h1, h2, -, h4⟩ := cmp_v (Or.inl q)
  cases h2.symm.trans (Term.int_eval k)
  obtain ⟨z, rfl⟩ := h4
  have e : z = k := gotT (Cond.eq_ints h1 (Term.int_eval k)) q
  subst e
  exact Sta.start h1 (Or.inl i)
set_option maxRecDepth 65536 in
set_option maxHeartbeats 40000000 in
theorem comes_1 {Post : Tables → Env → Array Value → State → Outcome → State → Prop} (hpost : ∀ tb e args s v u, (limb_1_1.after args s (.returned v) u = true ∧ limb_1_2.after args s (.returned v) u = true ∧ True) → ReturnedEndW s (.returned v) u (Jvm.fieldLocs frame_1_writes args s ++ Jvm.arrayLocs frame_1_arrays args s ++ Jvm.staticLocs frame_1_statics s) 24 3200 → Post tb e args s (.returned v) u) :
    ArmFor flags0 classFile x code maxLocals ret World_1 tables_1 room_1 Calls_1 rest_1 Pre_1 Post := by
  intro l hfl _ _ p e ha hc hk s m args below hf hA hF happ hP
  obtain ⟨hcalls, hrest, hpre⟩ := hP
  obtain ⟨-, -, -, hnamed, -, -, -, hat⟩ := (Spec.applies_iff hf).mp happ
  obtain ⟨hg, hn⟩ := and_e (Cond.before_iff.mp (show (Jvm.Cond.and given_1 narrow_1).before args s = true from hpre))
  obtain ⟨hcount, hg0⟩ := and_e hg
  obtain ⟨ga0, hg1⟩ := and_e hg0
  obtain ⟨ga1, hg2⟩ := and_e hg1
  obtain ⟨ga2, hg3⟩ := and_e hg2
  have ga3 := hg3
  obtain ⟨w0, w1, w2, w3, rfl⟩ : ∃ w0 w1 w2 w3 : Value, args = #[w0, w1, w2, w3] := by
    have hs : args.size = 4 := by simpa [Cond.value, given_1] using hcount
    obtain ⟨L⟩ := args
    match L, hs with
    | [w0, w1, w2, w3], _ => exact ⟨w0, w1, w2, w3, rfl⟩
  have hw := fun d (hd : d ∈ tables_1) => atoms_spec (ws := Jvm.Cond.code x code maxLocals ret :: tables_1) hat d (List.mem_cons_of_mem _ hd)
  obtain ⟨i0, ei0⟩ := is_v ga0
  obtain rfl : w0 = (.int i0) := Option.some.inj ei0
  obtain ⟨i1, ei1⟩ := is_v ga1
  obtain rfl : w1 = (.int i1) := Option.some.inj ei1
  obtain ⟨i2, ei2⟩ := is_v ga2
  obtain rfl : w2 = (.int i2) := Option.some.inj ei2
  obtain ⟨i3, ei3⟩ := is_v ga3
  obtain rfl : w3 = (.int i3) := Option.some.inj ei3
  obtain ⟨hsets, hown0⟩ := atoms_of _ (rest_1_c_eq ▸ (show rest_1_c.before _ s = true from hrest))
  obtain ⟨G, eG⟩ := is_v (Cond.before_iff.mp (hsets _ (List.mem_of_getElem? (i := 1) rfl)))
  have S0 : Sta s s.heap "java/lang/String" "COMPACT_STRINGS" "Z" (.int G) := Sta.start eG (Or.inl (hsets _ (List.mem_of_getElem? (i := 0) rfl)))
  have hG : ¬ (G = (0 : Int32)) := gotF (Cond.eq_ints eG (Term.int_eval (0))) (not_v (Cond.before_iff.mp (hsets _ (List.mem_of_getElem? (i := 2) rfl))))
  have SA : Sta s s.heap "java/lang/StringUTF16" "$assertionsDisabled" "Z" (.int (1 : Int32)) := own_steq (Cond.before_iff.mp (hsets _ (List.mem_of_getElem? (i := 12) rfl))) (hsets _ (List.mem_of_getElem? (i := 11) rfl))
  have SH : Sta s s.heap "java/lang/StringUTF16" "HI_BYTE_SHIFT" "I" (.int (0 : Int32)) := own_steq (Cond.before_iff.mp (hsets _ (List.mem_of_getElem? (i := 15) rfl))) (hsets _ (List.mem_of_getElem? (i := 14) rfl))
  have SL : Sta s s.heap "java/lang/StringUTF16" "LO_BYTE_SHIFT" "I" (.int (8 : Int32)) := own_steq (Cond.before_iff.mp (hsets _ (List.mem_of_getElem? (i := 18) rfl))) (hsets _ (List.mem_of_getElem? (i := 17) rfl))
  have hEL : EW s _ [("com/example/hermod/hermod/PercentEncoding", 91), ("com/example/hermod/hermod/PercentEncoding", 97), ("java/lang/String", 7)] := (EW.cons (hw _ (List.mem_of_getElem? (i := 32) rfl)) (by decide +kernel) (EW.cons (hw _ (List.mem_of_getElem? (i := 44) rfl)) (by decide +kernel) (EW.cons (hw _ (List.mem_of_getElem? (i := 20) rfl)) (by decide +kernel) EW.nil)))
  have hCH : CHv s [("com/example/hermod/hermod/PercentEncoding", 91), ("com/example/hermod/hermod/PercentEncoding", 97), ("java/lang/String", 7)] s.vm s.heap := CHv.start hEL (fun p hp => hcalls.1 p hp) (hsets _ (List.mem_of_getElem? (i := 2) rfl)) (hw _ (List.mem_of_getElem? (i := 21) rfl)) (hw _ (List.mem_of_getElem? (i := 7) rfl))
  obtain ⟨n, o, h1, h2, h3, _, L, rfl, ⟨rfl, N⟩, -, hq⟩ := rm_law l s _ hw tables_1 i0 i1 i2 i3 G [("com/example/hermod/hermod/PercentEncoding", 91), ("com/example/hermod/hermod/PercentEncoding", 97), ("java/lang/String", 7)] s.heap s.heap.size (Nat.le_refl _) rfl S0 hG SA SH SL (by simp) (by simp) (by simp) hEL (OView.nil _ _ _) (Old.start s) p e ha hc hk s m _ below hf ((Spec.applies_iff_loose hf).mp happ).1 ⟨rfl, State.Warmed39.refl s, rfl, hCH⟩ trivial
  refine ⟨n, _, h1, h2, h3, hpost _ _ _ _ _ _ ⟨Cond.after_iff.mpr rfl, Cond.after_iff.mpr (eq_i res_at (Term.int_eval (1)) rfl), trivial⟩ ⟨hq.1, hq.2.1, hq.2.2.1, (hq.2.2.2.sift fun y hy => Or.inr (N y hy)).mono (by decide) (by decide)⟩⟩
theorem main_1_1 : Claimed_1_1 := comes_1 fun _ _ _ _ _ _ h hF => ⟨h.1, hF⟩
theorem main_1_2 : Claimed_1_2 := comes_1 fun _ _ _ _ _ _ h hF => ⟨h.2.1, hF⟩
end Jvm.Pilot.@@N@@
namespace Jvm.Pilot.@@N@@
open Jvm Jvm.ClassFile Sem Op Lib Jvm.Free Jvm.Stand Jvm.Pilot.@@N@@.Jvm.D
/-! MADE BY PROGRAM (witnessworld.py) out of the Statement's table words and the real class files: 20 classes; the members and pool entries that the words name. The judged class is class 1, her method 2. -/
namespace start1
open Jvm.ClassFile
def u (s : String) : CpInfo := .utf8 (stringToUtf16 s)
/-- a pool by its gaps: so many unusable entries, then the entry; so many at the end -/
def gap : Nat → List CpInfo → List CpInfo
  | 0, r => r
  | n + 1, r => .unusable :: gap n r
def poolList (es : List (Nat × CpInfo)) (last : Nat) : List CpInfo := es.foldr (fun e r => gap e.1 (e.2 :: r)) (gap last [])
def pool (es : List (Nat × CpInfo)) (last : Nat) : Array CpInfo := ⟨poolList es last⟩
def fileOf (pool : Array CpInfo) (this : Nat) (attrs : Array Attribute := #[]) (ms : Array MethodInfo := #[]) (fl : Nat := 33) (sup : Nat := 0) (ifs : Array Nat := #[]) (fds : Array FieldInfo := #[]) : ClassFile where
  minorVersion := 0
  majorVersion := 65
  constantPool := pool
  accessFlags := fl
  thisClass := this
  superClass := sup
  interfaces := ifs
  fields := fds
  methods := ms
  attributes := attrs
def plain (name : String) (sup : Option ClassId) : Class where
  name := name
  kind := .ordinary
  loader := none
  accessFlags := 33
  super := sup
  interfaces := #[]
  cf := none
  fields := #[]
  methods := #[]
  instanceTypes := #[]
  staticTypes := #[]
  resolved := #[]
  callSites := []
  init := .initialized
  statics := none
  mirror := none

def pool0 : Array CpInfo := pool [(5, u "<init>"), (0, u "()V"), (1, .class_ 10), (1, u "java/lang/Object")] 113

def k0c0 : Code := { maxStack := 0, maxLocals := 1, code := object_method_1_code, exceptionTable := #[], attributes := #[] }
def k0m0 : Method := { name := "<init>", desc := "()V", sig := { parameters := [], returnType := none }, accessFlags := 1, code := some k0c0 }
/-- java/lang/Object -/
def k0 : Class := { plain "java/lang/Object" none with
  accessFlags := 33
  interfaces := #[]
  cf := some (fileOf pool0 8 #[] #[{ accessFlags := 1, nameIndex := 5, descriptorIndex := 6, attributes := #[] }] 33 0 #[] #[])
  fields := #[]
  methods := #[k0m0]
  instanceTypes := #[]
  staticTypes := #[]
  resolved := Array.replicate 124 none
  statics := none }

def pool1 : Array CpInfo := pool [(2, .class_ 4), (1, u "java/lang/Object"), (0, u "<init>"), (0, u "()V"), (0, .integer 65536), (0, .integer 65535), (0, .methodref 10 11), (0, .class_ 12), (0, .nameAndType 13 14), (0, u "com/example/hermod/hermod/PercentEncodingIsDotSegmentPinLaw"), (0, u "draw"), (0, u "(I)C"), (0, .class_ 16), (0, u "java/lang/String"), (0, .methodref 15 18), (0, .nameAndType 5 19), (0, u "([C)V"), (0, .methodref 21 22), (0, .class_ 23), (0, .nameAndType 24 25), (0, u "com/example/hermod/hermod/PercentEncoding"), (0, u "isDotSegment"), (0, u "(Ljava/lang/String;)Z"), (3, u "law"), (0, u "(IIII)Z")] 2

def k1m0 : Method := { name := "<init>", desc := "()V", sig := { parameters := [], returnType := none }, accessFlags := 2, code := none }
def k1c1 : Code := { maxStack := 2, maxLocals := 1, code := method_2_code, exceptionTable := #[], attributes := #[] }
def k1m1 : Method := { name := "draw", desc := "(I)C", sig := { parameters := [.int], returnType := some .char }, accessFlags := 10, code := some k1c1 }
def k1c2 : Code := { maxStack := 6, maxLocals := 10, code := code, exceptionTable := #[], attributes := #[] }
def k1m2 : Method := { name := "law", desc := "(IIII)Z", sig := { parameters := [.int, .int, .int, .int], returnType := some .boolean }, accessFlags := 9, code := some k1c2 }
/-- com/example/hermod/hermod/PercentEncodingIsDotSegmentPinLaw -/
def k1 : Class := { plain "com/example/hermod/hermod/PercentEncodingIsDotSegmentPinLaw" (some 0) with
  accessFlags := 49
  interfaces := #[]
  cf := some (fileOf pool1 10 #[] #[{ accessFlags := 2, nameIndex := 5, descriptorIndex := 6, attributes := #[] }, { accessFlags := 10, nameIndex := 13, descriptorIndex := 14, attributes := #[] }, { accessFlags := 9, nameIndex := 29, descriptorIndex := 30, attributes := #[] }] 49 2 #[] #[])
  fields := #[]
  methods := #[k1m0, k1m1, k1m2]
  instanceTypes := #[]
  staticTypes := #[]
  resolved := Array.replicate 33 none
  statics := none }

def pool2 : Array CpInfo := pool [(1, .class_ 2), (0, u "java/io/Serializable"), (0, .class_ 4), (0, u "java/lang/Object")] 2

/-- java/io/Serializable -/
def k2 : Class := { plain "java/io/Serializable" (some 0) with
  accessFlags := 1537
  interfaces := #[]
  cf := some (fileOf pool2 1 #[] #[] 1537 3 #[] #[])
  fields := #[]
  methods := #[]
  instanceTypes := #[]
  staticTypes := #[]
  resolved := Array.replicate 7 none
  statics := none }

def pool3 : Array CpInfo := pool [(1, .class_ 2), (0, u "java/lang/Comparable"), (0, .class_ 4), (0, u "java/lang/Object")] 7

/-- java/lang/Comparable -/
def k3 : Class := { plain "java/lang/Comparable" (some 0) with
  accessFlags := 1537
  interfaces := #[]
  cf := some (fileOf pool3 1 #[] #[] 1537 3 #[] #[])
  fields := #[]
  methods := #[]
  instanceTypes := #[]
  staticTypes := #[]
  resolved := Array.replicate 12 none
  statics := none }

def pool4 : Array CpInfo := pool [(2, .class_ 4), (1, u "java/lang/CharSequence"), (42, .class_ 48), (0, u "java/lang/CharSequence$1CodePointIterator"), (10, .class_ 60), (0, u "java/lang/CharSequence$1CharIterator"), (5, .class_ 67), (0, u "java/lang/Object")] 63

/-- java/lang/CharSequence -/
def k4 : Class := { plain "java/lang/CharSequence" (some 0) with
  accessFlags := 1537
  interfaces := #[]
  cf := some (fileOf pool4 2 #[.nestMembers #[47, 59]] #[] 1537 66 #[] #[])
  fields := #[]
  methods := #[]
  instanceTypes := #[]
  staticTypes := #[]
  resolved := Array.replicate 131 none
  statics := none }

def pool5 : Array CpInfo := pool [(1, .class_ 2), (0, u "java/lang/constant/Constable"), (0, .class_ 4), (0, u "java/lang/Object")] 6

/-- java/lang/constant/Constable -/
def k5 : Class := { plain "java/lang/constant/Constable" (some 0) with
  accessFlags := 1537
  interfaces := #[]
  cf := some (fileOf pool5 1 #[] #[] 1537 3 #[] #[])
  fields := #[]
  methods := #[]
  instanceTypes := #[]
  staticTypes := #[]
  resolved := Array.replicate 11 none
  statics := none }

def pool6 : Array CpInfo := pool [(1, .class_ 2), (0, u "java/lang/constant/ConstantDesc"), (0, .class_ 4), (0, u "java/lang/Object")] 32

/-- java/lang/constant/ConstantDesc -/
def k6 : Class := { plain "java/lang/constant/ConstantDesc" (some 0) with
  accessFlags := 1537
  interfaces := #[]
  cf := some (fileOf pool6 1 #[] #[] 1537 3 #[] #[])
  fields := #[]
  methods := #[]
  instanceTypes := #[]
  staticTypes := #[]
  resolved := Array.replicate 37 none
  statics := none }

def pool7 : Array CpInfo := pool [(1, .methodref 2 3), (0, .class_ 4), (0, .nameAndType 5 6), (0, u "java/lang/Object"), (0, u "<init>"), (0, u "()V"), (0, .string 8), (0, u ""), (0, .fieldref 10 11), (0, .class_ 12), (0, .nameAndType 13 14), (0, u "java/lang/String"), (0, u "value"), (0, u "[B"), (0, .fieldref 10 16), (0, .nameAndType 17 18), (0, u "coder"), (0, u "B"), (2, u "hash"), (0, u "I"), (2, u "hashIsZero"), (0, u "Z"), (0, .methodref 10 28), (0, .nameAndType 5 29), (0, u "([CIILjava/lang/Void;)V"), (8, .fieldref 10 39), (0, .nameAndType 40 26), (0, u "COMPACT_STRINGS"), (1, .class_ 44), (1, u "java/lang/StringUTF16"), (0, u "compress"), (1, .methodref 42 48), (0, .nameAndType 49 50), (0, u "coderFromArrayLen"), (0, u "([BI)B"), (56, .class_ 109), (1, u "java/lang/StringLatin1"), (67, .methodref 42 178), (0, .nameAndType 45 179), (0, u "([CII)[B"), (361, .methodref 107 542), (0, .nameAndType 543 544), (0, u "equals"), (0, u "([B[B)Z"), (28, u "(Ljava/lang/Object;)Z"), (1, .class_ 576), (0, u "java/lang/CharSequence"), (22, u "CASE_INSENSITIVE_ORDER"), (0, u "Ljava/util/Comparator;"), (409, u "([C)V"), (90, u "serialPersistentFields"), (0, u "[Ljava/io/ObjectStreamField;"), (0, .class_ 1104), (0, u "java/lang/String$CaseInsensitiveComparator"), (1, .class_ 1107), (0, u "java/io/Serializable"), (0, .class_ 1109), (0, u "java/lang/Comparable"), (0, .class_ 1111), (0, u "java/lang/constant/Constable"), (0, .class_ 1113), (0, u "java/lang/constant/ConstantDesc"), (2, u "serialVersionUID"), (0, u "J"), (3, u "REPL"), (0, u "C"), (2, u "LATIN1"), (1, u "UTF16")] 323

def k7m0 : Method := { name := "<init>", desc := "()V", sig := { parameters := [], returnType := none }, accessFlags := 1, code := none }
def k7c1 : Code := { maxStack := 5, maxLocals := 2, code := jdk_42_method_3_code, exceptionTable := #[], attributes := #[] }
def k7m1 : Method := { name := "<init>", desc := "([C)V", sig := { parameters := [(.array .char)], returnType := none }, accessFlags := 1, code := some k7c1 }
def k7c2 : Code := { maxStack := 2, maxLocals := 3, code := jdk_42_method_66_code, exceptionTable := #[], attributes := #[] }
def k7m2 : Method := { name := "equals", desc := "(Ljava/lang/Object;)Z", sig := { parameters := [(.object "java/lang/Object")], returnType := some .boolean }, accessFlags := 1, code := some k7c2 }
def k7c3 : Code := { maxStack := 4, maxLocals := 6, code := jdk_42_method_149_code, exceptionTable := #[], attributes := #[] }
def k7m3 : Method := { name := "<init>", desc := "([CIILjava/lang/Void;)V", sig := { parameters := [(.array .char), .int, .int, (.object "java/lang/Void")], returnType := none }, accessFlags := 2, code := some k7c3 }
/-- java/lang/String -/
def k7 : Class := { plain "java/lang/String" (some 0) with
  accessFlags := 49
  interfaces := #[2, 3, 4, 5, 6]
  cf := some (fileOf pool7 10 #[.nestMembers #[1103]] #[{ accessFlags := 1, nameIndex := 5, descriptorIndex := 6, attributes := #[] }, { accessFlags := 1, nameIndex := 5, descriptorIndex := 1010, attributes := #[] }, { accessFlags := 1, nameIndex := 543, descriptorIndex := 573, attributes := #[] }, { accessFlags := 2, nameIndex := 5, descriptorIndex := 29, attributes := #[] }] 49 2 #[1106, 1108, 575, 1110, 1112] #[{ accessFlags := 18, nameIndex := 13, descriptorIndex := 14, attributes := #[] }, { accessFlags := 18, nameIndex := 17, descriptorIndex := 18, attributes := #[] }, { accessFlags := 2, nameIndex := 21, descriptorIndex := 22, attributes := #[] }, { accessFlags := 2, nameIndex := 25, descriptorIndex := 26, attributes := #[] }, { accessFlags := 26, nameIndex := 1116, descriptorIndex := 1117, attributes := #[] }, { accessFlags := 24, nameIndex := 40, descriptorIndex := 26, attributes := #[] }, { accessFlags := 26, nameIndex := 1101, descriptorIndex := 1102, attributes := #[] }, { accessFlags := 26, nameIndex := 1121, descriptorIndex := 1122, attributes := #[] }, { accessFlags := 25, nameIndex := 599, descriptorIndex := 600, attributes := #[] }, { accessFlags := 24, nameIndex := 1125, descriptorIndex := 18, attributes := #[] }, { accessFlags := 24, nameIndex := 1127, descriptorIndex := 18, attributes := #[] }])
  fields := #[{ name := "value", type := (.array .byte), accessFlags := 18, slot := 0, constantValue := 0 }, { name := "coder", type := .byte, accessFlags := 18, slot := 1, constantValue := 0 }, { name := "hash", type := .int, accessFlags := 2, slot := 2, constantValue := 0 }, { name := "hashIsZero", type := .boolean, accessFlags := 2, slot := 3, constantValue := 0 }, { name := "serialVersionUID", type := .long, accessFlags := 26, slot := 0, constantValue := 0 }, { name := "COMPACT_STRINGS", type := .boolean, accessFlags := 24, slot := 1, constantValue := 0 }, { name := "serialPersistentFields", type := (.array (.object "java/io/ObjectStreamField")), accessFlags := 26, slot := 2, constantValue := 0 }, { name := "REPL", type := .char, accessFlags := 26, slot := 3, constantValue := 0 }, { name := "CASE_INSENSITIVE_ORDER", type := (.object "java/util/Comparator"), accessFlags := 25, slot := 4, constantValue := 0 }, { name := "LATIN1", type := .byte, accessFlags := 24, slot := 5, constantValue := 0 }, { name := "UTF16", type := .byte, accessFlags := 24, slot := 6, constantValue := 0 }]
  methods := #[k7m0, k7m1, k7m2, k7m3]
  instanceTypes := #[(.array .byte), .byte, .int, .boolean]
  staticTypes := #[.long, .boolean, (.array (.object "java/io/ObjectStreamField")), .char, (.object "java/util/Comparator"), .byte, .byte]
  resolved := Array.replicate 1451 none
  statics := some 0 }

def pool8 : Array CpInfo := pool [(2, .class_ 4), (1, u "java/lang/Object"), (0, u "<init>"), (0, u "()V"), (0, .class_ 8), (0, u "com/example/hermod/hermod/PercentEncoding"), (3, .class_ 14), (1, u "java/lang/String"), (36, u "DOTS_WRITTEN_LONGEST"), (0, u "I"), (32, u "isDotSegment"), (0, u "(Ljava/lang/String;)Z"), (4, .string 92), (0, u "."), (0, .methodref 12 94), (0, .nameAndType 95 96), (0, u "equals"), (0, u "(Ljava/lang/Object;)Z"), (0, .string 98), (0, u ".."), (48, u "UNRESERVED_PUNCTUATION"), (0, u "Ljava/lang/String;"), (1, u "PATH_DELIMITERS"), (0, u "HEX_DIGITS")] 29

def k8m0 : Method := { name := "<init>", desc := "()V", sig := { parameters := [], returnType := none }, accessFlags := 2, code := none }
def k8c1 : Code := { maxStack := 2, maxLocals := 1, code := prog_11_method_6_code, exceptionTable := #[], attributes := #[] }
def k8m1 : Method := { name := "isDotSegment", desc := "(Ljava/lang/String;)Z", sig := { parameters := [(.object "java/lang/String")], returnType := some .boolean }, accessFlags := 8, code := some k8c1 }
/-- com/example/hermod/hermod/PercentEncoding -/
def k8 : Class := { plain "com/example/hermod/hermod/PercentEncoding" (some 0) with
  accessFlags := 32
  interfaces := #[]
  cf := some (fileOf pool8 7 #[] #[{ accessFlags := 2, nameIndex := 5, descriptorIndex := 6, attributes := #[] }, { accessFlags := 8, nameIndex := 85, descriptorIndex := 86, attributes := #[] }] 32 2 #[] #[{ accessFlags := 26, nameIndex := 147, descriptorIndex := 148, attributes := #[] }, { accessFlags := 26, nameIndex := 150, descriptorIndex := 148, attributes := #[] }, { accessFlags := 26, nameIndex := 51, descriptorIndex := 52, attributes := #[] }, { accessFlags := 26, nameIndex := 151, descriptorIndex := 148, attributes := #[] }])
  fields := #[{ name := "UNRESERVED_PUNCTUATION", type := (.object "java/lang/String"), accessFlags := 26, slot := 0, constantValue := 0 }, { name := "PATH_DELIMITERS", type := (.object "java/lang/String"), accessFlags := 26, slot := 1, constantValue := 0 }, { name := "DOTS_WRITTEN_LONGEST", type := .int, accessFlags := 26, slot := 2, constantValue := 0 }, { name := "HEX_DIGITS", type := (.object "java/lang/String"), accessFlags := 26, slot := 3, constantValue := 0 }]
  methods := #[k8m0, k8m1]
  instanceTypes := #[]
  staticTypes := #[(.object "java/lang/String"), (.object "java/lang/String"), .int, (.object "java/lang/String")]
  resolved := Array.replicate 181 none
  statics := none }

def pool9 : Array CpInfo := pool [(4, .class_ 6), (1, u "java/lang/Object"), (0, u "<init>"), (0, u "()V"), (5, .class_ 16), (1, u "java/lang/StringLatin1"), (104, u "$assertionsDisabled"), (0, u "Z"), (98, .class_ 223), (1, u "java/lang/StringLatin1$LinesSpliterator"), (57, u "equals"), (0, u "([B[B)Z"), (107, .class_ 391), (0, u "java/lang/StringLatin1$CharsSpliterator")] 3

def k9m0 : Method := { name := "<init>", desc := "()V", sig := { parameters := [], returnType := none }, accessFlags := 0, code := none }
def k9c1 : Code := { maxStack := 3, maxLocals := 3, code := jdk_43_method_13_code, exceptionTable := #[], attributes := #[] }
def k9m1 : Method := { name := "equals", desc := "([B[B)Z", sig := { parameters := [(.array .byte), (.array .byte)], returnType := some .boolean }, accessFlags := 9, code := some k9c1 }
/-- java/lang/StringLatin1 -/
def k9 : Class := { plain "java/lang/StringLatin1" (some 0) with
  accessFlags := 48
  interfaces := #[]
  cf := some (fileOf pool9 14 #[.nestMembers #[390, 221]] #[{ accessFlags := 0, nameIndex := 7, descriptorIndex := 8, attributes := #[] }, { accessFlags := 9, nameIndex := 281, descriptorIndex := 282, attributes := #[] }] 48 4 #[] #[{ accessFlags := 4120, nameIndex := 121, descriptorIndex := 122, attributes := #[] }])
  fields := #[{ name := "$assertionsDisabled", type := .boolean, accessFlags := 4120, slot := 0, constantValue := 0 }]
  methods := #[k9m0, k9m1]
  instanceTypes := #[]
  staticTypes := #[.boolean]
  resolved := Array.replicate 395 none
  statics := none }

def pool10 : Array CpInfo := pool [(6, .class_ 8), (1, u "java/lang/Object"), (0, u "<init>"), (0, u "()V"), (0, .methodref 12 13), (0, .class_ 14), (0, .nameAndType 15 16), (0, u "java/lang/StringUTF16"), (0, u "newBytesLength"), (0, u "(I)I"), (3, .integer 1073741823), (23, .fieldref 12 45), (0, .nameAndType 46 47), (0, u "$assertionsDisabled"), (0, u "Z"), (11, .fieldref 12 60), (0, .nameAndType 61 62), (0, u "HI_BYTE_SHIFT"), (0, u "I"), (0, .fieldref 12 64), (0, .nameAndType 65 62), (0, u "LO_BYTE_SHIFT"), (5, .methodref 12 72), (0, .nameAndType 73 74), (0, u "getChar"), (0, u "([BI)C"), (32, .methodref 12 108), (0, .nameAndType 109 110), (0, u "newBytesFor"), (0, u "(I)[B"), (0, .methodref 12 112), (0, .nameAndType 113 114), (0, u "putChar"), (0, u "([BII)V"), (0, .methodref 12 116), (0, .nameAndType 117 118), (0, u "compress"), (0, u "([CI[BII)I"), (0, .methodref 12 120), (0, .nameAndType 121 122), (0, u "toBytes"), (0, u "([CII)[B"), (138, u "coderFromArrayLen"), (0, u "([BI)B"), (106, .class_ 371), (1, u "java/lang/StringUTF16$LinesSpliterator"), (58, u "MAX_LENGTH"), (196, .class_ 628), (0, u "java/lang/StringUTF16$CodePointsSpliterator"), (0, .class_ 630), (0, u "java/lang/StringUTF16$CharsSpliterator")] 4

def k10m0 : Method := { name := "<init>", desc := "()V", sig := { parameters := [], returnType := none }, accessFlags := 0, code := none }
def k10c1 : Code := { maxStack := 1, maxLocals := 1, code := jdk_52_method_2_code, exceptionTable := #[], attributes := #[] }
def k10m1 : Method := { name := "newBytesFor", desc := "(I)[B", sig := { parameters := [.int], returnType := some (.array .byte) }, accessFlags := 9, code := some k10c1 }
def k10c2 : Code := { maxStack := 4, maxLocals := 1, code := jdk_52_method_3_code, exceptionTable := #[], attributes := #[] }
def k10m2 : Method := { name := "newBytesLength", desc := "(I)I", sig := { parameters := [.int], returnType := some .int }, accessFlags := 9, code := some k10c2 }
def k10c3 : Code := { maxStack := 4, maxLocals := 3, code := jdk_52_method_4_code, exceptionTable := #[], attributes := #[] }
def k10m3 : Method := { name := "putChar", desc := "([BII)V", sig := { parameters := [(.array .byte), .int, .int], returnType := none }, accessFlags := 8, code := some k10c3 }
def k10c4 : Code := { maxStack := 3, maxLocals := 2, code := jdk_52_method_5_code, exceptionTable := #[], attributes := #[] }
def k10m4 : Method := { name := "getChar", desc := "([BI)C", sig := { parameters := [(.array .byte), .int], returnType := some .char }, accessFlags := 8, code := some k10c4 }
def k10c5 : Code := { maxStack := 4, maxLocals := 5, code := jdk_52_method_14_code, exceptionTable := #[], attributes := #[] }
def k10m5 : Method := { name := "toBytes", desc := "([CII)[B", sig := { parameters := [(.array .char), .int, .int], returnType := some (.array .byte) }, accessFlags := 9, code := some k10c5 }
def k10c6 : Code := { maxStack := 2, maxLocals := 2, code := jdk_52_method_15_code, exceptionTable := #[], attributes := #[] }
def k10m6 : Method := { name := "coderFromArrayLen", desc := "([BI)B", sig := { parameters := [(.array .byte), .int], returnType := some .byte }, accessFlags := 8, code := some k10c6 }
def k10c7 : Code := { maxStack := 5, maxLocals := 6, code := jdk_52_method_16_code, exceptionTable := #[], attributes := #[] }
def k10m7 : Method := { name := "compress", desc := "([CII)[B", sig := { parameters := [(.array .char), .int, .int], returnType := some (.array .byte) }, accessFlags := 9, code := some k10c7 }
def k10c8 : Code := { maxStack := 3, maxLocals := 7, code := jdk_52_method_21_code, exceptionTable := #[], attributes := #[] }
def k10m8 : Method := { name := "compress", desc := "([CI[BII)I", sig := { parameters := [(.array .char), .int, (.array .byte), .int, .int], returnType := some .int }, accessFlags := 9, code := some k10c8 }
/-- java/lang/StringUTF16 -/
def k10 : Class := { plain "java/lang/StringUTF16" (some 0) with
  accessFlags := 48
  interfaces := #[]
  cf := some (fileOf pool10 12 #[.nestMembers #[627, 629, 369]] #[{ accessFlags := 0, nameIndex := 9, descriptorIndex := 10, attributes := #[] }, { accessFlags := 9, nameIndex := 109, descriptorIndex := 110, attributes := #[] }, { accessFlags := 9, nameIndex := 15, descriptorIndex := 16, attributes := #[] }, { accessFlags := 8, nameIndex := 113, descriptorIndex := 114, attributes := #[] }, { accessFlags := 8, nameIndex := 73, descriptorIndex := 74, attributes := #[] }, { accessFlags := 9, nameIndex := 121, descriptorIndex := 122, attributes := #[] }, { accessFlags := 8, nameIndex := 261, descriptorIndex := 262, attributes := #[] }, { accessFlags := 9, nameIndex := 117, descriptorIndex := 122, attributes := #[] }, { accessFlags := 9, nameIndex := 117, descriptorIndex := 118, attributes := #[] }] 48 6 #[] #[{ accessFlags := 26, nameIndex := 61, descriptorIndex := 62, attributes := #[] }, { accessFlags := 26, nameIndex := 65, descriptorIndex := 62, attributes := #[] }, { accessFlags := 24, nameIndex := 430, descriptorIndex := 62, attributes := #[] }, { accessFlags := 4120, nameIndex := 46, descriptorIndex := 47, attributes := #[] }])
  fields := #[{ name := "HI_BYTE_SHIFT", type := .int, accessFlags := 26, slot := 0, constantValue := 0 }, { name := "LO_BYTE_SHIFT", type := .int, accessFlags := 26, slot := 1, constantValue := 0 }, { name := "MAX_LENGTH", type := .int, accessFlags := 24, slot := 2, constantValue := 0 }, { name := "$assertionsDisabled", type := .boolean, accessFlags := 4120, slot := 3, constantValue := 0 }]
  methods := #[k10m0, k10m1, k10m2, k10m3, k10m4, k10m5, k10m6, k10m7, k10m8]
  instanceTypes := #[]
  staticTypes := #[.int, .int, .int, .boolean]
  resolved := Array.replicate 635 none
  statics := some 1 }

def pool11 : Array CpInfo := pool [(2, .class_ 4), (1, u "java/lang/Object"), (0, u "<init>"), (0, u "()V"), (17, .class_ 26), (1, u "jdk/internal/util/Preconditions"), (28, .class_ 56), (0, u "jdk/internal/util/Preconditions$4"), (57, .class_ 115), (0, u "jdk/internal/util/Preconditions$1"), (7, u "SIOOBE_FORMATTER"), (0, u "Ljava/util/function/BiFunction;"), (0, .class_ 126), (0, u "jdk/internal/util/Preconditions$2"), (3, u "AIOOBE_FORMATTER"), (0, .class_ 132), (0, u "jdk/internal/util/Preconditions$3"), (3, u "IOOBE_FORMATTER")] 57

def k11m0 : Method := { name := "<init>", desc := "()V", sig := { parameters := [], returnType := none }, accessFlags := 1, code := none }
/-- jdk/internal/util/Preconditions -/
def k11 : Class := { plain "jdk/internal/util/Preconditions" (some 0) with
  accessFlags := 33
  interfaces := #[]
  cf := some (fileOf pool11 24 #[.nestMembers #[55, 131, 125, 114]] #[{ accessFlags := 1, nameIndex := 5, descriptorIndex := 6, attributes := #[] }] 33 2 #[] #[{ accessFlags := 25, nameIndex := 123, descriptorIndex := 124, attributes := #[] }, { accessFlags := 25, nameIndex := 130, descriptorIndex := 124, attributes := #[] }, { accessFlags := 25, nameIndex := 136, descriptorIndex := 124, attributes := #[] }])
  fields := #[{ name := "SIOOBE_FORMATTER", type := (.object "java/util/function/BiFunction"), accessFlags := 25, slot := 0, constantValue := 0 }, { name := "AIOOBE_FORMATTER", type := (.object "java/util/function/BiFunction"), accessFlags := 25, slot := 1, constantValue := 0 }, { name := "IOOBE_FORMATTER", type := (.object "java/util/function/BiFunction"), accessFlags := 25, slot := 2, constantValue := 0 }]
  methods := #[k11m0]
  instanceTypes := #[]
  staticTypes := #[(.object "java/util/function/BiFunction"), (.object "java/util/function/BiFunction"), (.object "java/util/function/BiFunction")]
  resolved := Array.replicate 194 none
  statics := some 2 }

def pool12 : Array CpInfo := pool [(9, u "<init>"), (6, .class_ 18), (1, u "java/lang/Object"), (0, u "()V"), (1, .class_ 23), (1, u "jdk/internal/util/ArraysSupport"), (0, u "LOG2_ARRAY_LONG_INDEX_SCALE"), (0, u "I"), (2, u "U"), (0, u "Ljdk/internal/misc/Unsafe;"), (8, u "BIG_ENDIAN"), (0, u "Z"), (8, u "LOG2_BYTE_BIT_SIZE"), (4, u "LOG2_ARRAY_INT_INDEX_SCALE"), (54, u "JLA"), (0, u "Ljdk/internal/access/JavaLangAccess;"), (11, u "LOG2_ARRAY_BOOLEAN_INDEX_SCALE"), (9, u "LOG2_ARRAY_BYTE_INDEX_SCALE"), (5, u "LOG2_ARRAY_CHAR_INDEX_SCALE"), (5, u "LOG2_ARRAY_SHORT_INDEX_SCALE"), (18, u "LOG2_ARRAY_FLOAT_INDEX_SCALE"), (24, u "LOG2_ARRAY_DOUBLE_INDEX_SCALE"), (89, u "T_BOOLEAN"), (2, u "T_CHAR"), (1, u "T_FLOAT"), (1, u "T_DOUBLE"), (1, u "T_BYTE"), (1, u "T_SHORT"), (1, u "T_INT"), (1, u "T_LONG"), (1, u "SOFT_MAX_ARRAY_LENGTH")] 83

def k12m0 : Method := { name := "<init>", desc := "()V", sig := { parameters := [], returnType := none }, accessFlags := 2, code := none }
/-- jdk/internal/util/ArraysSupport -/
def k12 : Class := { plain "jdk/internal/util/ArraysSupport" (some 0) with
  accessFlags := 33
  interfaces := #[]
  cf := some (fileOf pool12 21 #[] #[{ accessFlags := 2, nameIndex := 9, descriptorIndex := 19, attributes := #[] }] 33 16 #[] #[{ accessFlags := 24, nameIndex := 28, descriptorIndex := 29, attributes := #[] }, { accessFlags := 26, nameIndex := 38, descriptorIndex := 39, attributes := #[] }, { accessFlags := 25, nameIndex := 121, descriptorIndex := 25, attributes := #[] }, { accessFlags := 25, nameIndex := 131, descriptorIndex := 25, attributes := #[] }, { accessFlags := 25, nameIndex := 137, descriptorIndex := 25, attributes := #[] }, { accessFlags := 25, nameIndex := 143, descriptorIndex := 25, attributes := #[] }, { accessFlags := 25, nameIndex := 53, descriptorIndex := 25, attributes := #[] }, { accessFlags := 25, nameIndex := 24, descriptorIndex := 25, attributes := #[] }, { accessFlags := 25, nameIndex := 162, descriptorIndex := 25, attributes := #[] }, { accessFlags := 25, nameIndex := 187, descriptorIndex := 25, attributes := #[] }, { accessFlags := 26, nameIndex := 48, descriptorIndex := 25, attributes := #[] }, { accessFlags := 25, nameIndex := 277, descriptorIndex := 25, attributes := #[] }, { accessFlags := 25, nameIndex := 280, descriptorIndex := 25, attributes := #[] }, { accessFlags := 25, nameIndex := 282, descriptorIndex := 25, attributes := #[] }, { accessFlags := 25, nameIndex := 284, descriptorIndex := 25, attributes := #[] }, { accessFlags := 25, nameIndex := 286, descriptorIndex := 25, attributes := #[] }, { accessFlags := 25, nameIndex := 288, descriptorIndex := 25, attributes := #[] }, { accessFlags := 25, nameIndex := 290, descriptorIndex := 25, attributes := #[] }, { accessFlags := 25, nameIndex := 292, descriptorIndex := 25, attributes := #[] }, { accessFlags := 26, nameIndex := 108, descriptorIndex := 109, attributes := #[] }, { accessFlags := 25, nameIndex := 294, descriptorIndex := 25, attributes := #[] }])
  fields := #[{ name := "U", type := (.object "jdk/internal/misc/Unsafe"), accessFlags := 24, slot := 0, constantValue := 0 }, { name := "BIG_ENDIAN", type := .boolean, accessFlags := 26, slot := 1, constantValue := 0 }, { name := "LOG2_ARRAY_BOOLEAN_INDEX_SCALE", type := .int, accessFlags := 25, slot := 2, constantValue := 0 }, { name := "LOG2_ARRAY_BYTE_INDEX_SCALE", type := .int, accessFlags := 25, slot := 3, constantValue := 0 }, { name := "LOG2_ARRAY_CHAR_INDEX_SCALE", type := .int, accessFlags := 25, slot := 4, constantValue := 0 }, { name := "LOG2_ARRAY_SHORT_INDEX_SCALE", type := .int, accessFlags := 25, slot := 5, constantValue := 0 }, { name := "LOG2_ARRAY_INT_INDEX_SCALE", type := .int, accessFlags := 25, slot := 6, constantValue := 0 }, { name := "LOG2_ARRAY_LONG_INDEX_SCALE", type := .int, accessFlags := 25, slot := 7, constantValue := 0 }, { name := "LOG2_ARRAY_FLOAT_INDEX_SCALE", type := .int, accessFlags := 25, slot := 8, constantValue := 0 }, { name := "LOG2_ARRAY_DOUBLE_INDEX_SCALE", type := .int, accessFlags := 25, slot := 9, constantValue := 0 }, { name := "LOG2_BYTE_BIT_SIZE", type := .int, accessFlags := 26, slot := 10, constantValue := 0 }, { name := "T_BOOLEAN", type := .int, accessFlags := 25, slot := 11, constantValue := 0 }, { name := "T_CHAR", type := .int, accessFlags := 25, slot := 12, constantValue := 0 }, { name := "T_FLOAT", type := .int, accessFlags := 25, slot := 13, constantValue := 0 }, { name := "T_DOUBLE", type := .int, accessFlags := 25, slot := 14, constantValue := 0 }, { name := "T_BYTE", type := .int, accessFlags := 25, slot := 15, constantValue := 0 }, { name := "T_SHORT", type := .int, accessFlags := 25, slot := 16, constantValue := 0 }, { name := "T_INT", type := .int, accessFlags := 25, slot := 17, constantValue := 0 }, { name := "T_LONG", type := .int, accessFlags := 25, slot := 18, constantValue := 0 }, { name := "JLA", type := (.object "jdk/internal/access/JavaLangAccess"), accessFlags := 26, slot := 19, constantValue := 0 }, { name := "SOFT_MAX_ARRAY_LENGTH", type := .int, accessFlags := 25, slot := 20, constantValue := 0 }]
  methods := #[k12m0]
  instanceTypes := #[]
  staticTypes := #[(.object "jdk/internal/misc/Unsafe"), .boolean, .int, .int, .int, .int, .int, .int, .int, .int, .int, .int, .int, .int, .int, .int, .int, .int, .int, (.object "jdk/internal/access/JavaLangAccess"), .int]
  resolved := Array.replicate 378 none
  statics := none }

def pool13 : Array CpInfo := pool [(1, u "java/lang/Cloneable"), (0, .class_ 1), (0, u "java/lang/Object"), (0, .class_ 3)] 3

/-- java/lang/Cloneable -/
def k13 : Class := { plain "java/lang/Cloneable" (some 0) with
  accessFlags := 1537
  interfaces := #[]
  cf := some (fileOf pool13 2 #[] #[] 1537 4 #[] #[])
  fields := #[]
  methods := #[]
  instanceTypes := #[]
  staticTypes := #[]
  resolved := Array.replicate 8 none
  statics := none }

/-- the primitive byte -/
def k14 : Class := { plain "byte" none with kind := .primitive 'B', accessFlags := 0x411 }
/-- [B -/
def k15 : Class := { plain "[B" (some 0) with kind := .array 14 .byte, interfaces := #[13, 2], accessFlags := 1041 }

/-- the primitive char -/
def k16 : Class := { plain "char" none with kind := .primitive 'C', accessFlags := 0x411 }
/-- [C -/
def k17 : Class := { plain "[C" (some 0) with kind := .array 16 .char, interfaces := #[13, 2], accessFlags := 1041 }

/-- the primitive int -/
def k18 : Class := { plain "int" none with kind := .primitive 'I', accessFlags := 0x411 }
/-- [I -/
def k19 : Class := { plain "[I" (some 0) with kind := .array 18 .int, interfaces := #[13, 2], accessFlags := 1041 }

def heap : Heap := #[{ cls := 7, slots := #[.long 0, .int 1, .null, .int 0, .null, .int 0, .int 0], vm := .statics 7 },
  { cls := 10, slots := #[.int 0, .int 8, .int 0, .int 1], vm := .statics 10 },
  { cls := 11, slots := #[.null, .null, .null], vm := .statics 11 }]
def classes : Array Class := #[k0, k1, k2, k3, k4, k5, k6, k7, k8, k9, k10, k11, k12, k13, k14, k15, k16, k17, k18, k19]
def interned : List (Array UInt16 × Addr) := []
def slotsUsed : Nat := 14
def theMethod : MethodId := ⟨1, 2⟩
def args0 : Array Value := #[.int 5, .int 70, .int 46, .int 9]
def aboutOver (below : List Frame) : State where
  vm := { classes := classes, interned := interned.toArray }
  heap := heap
  slotsUsed := slotsUsed
  threads := #[{ frames := .invoking theMethod args0 :: below }]
def below0 : List Frame := [.native { method := ⟨0, 0⟩, args := #[] }]
def about1 : State := aboutOver below0
def p0 : Program := .bare "" "" ""
def e0 : Env := launch0.env 0 0 0
theorem w_frames : about1.frames = Frame.invoking theMethod args0 :: below0 := rfl
set_option maxRecDepth 65536 in
theorem w_args : argsFit about1.vm theMethod args0 = true := by decide +kernel
set_option maxRecDepth 65536 in
theorem w_heap : heapFits about1 = true := by decide +kernel
set_option maxRecDepth 65536 in
theorem w_runnable : about1.curStatus? = some .runnable := by decide +kernel
set_option maxRecDepth 65536 in
theorem w_alone : about1.alone = true := by decide +kernel
set_option maxRecDepth 65536 in
theorem w_named : about1.methodNamed? x = some theMethod := by decide +kernel
set_option maxRecDepth 65536 in
theorem w_hears : about1.hears theMethod below0 = true := by decide +kernel
set_option maxRecDepth 65536 in
theorem w_ripe : about1.ripe theMethod args0 below0 = true := by decide +kernel
theorem w_running : about1.status = .running := rfl
set_option maxRecDepth 65536 in
theorem w_room : about1.hasRoom e0.platform room_1 = true :=
  launch0.hasRoom_least _ room_1 (by decide +kernel) (by decide +kernel) (by decide +kernel) (by decide +kernel) (by decide +kernel) (by decide +kernel)
theorem allAtoms_all (ts : List Jvm.Cond) (a : Array Jvm.Value) (st : Jvm.State) : (allAtoms ts).before a st = ts.all (fun c => c.before a st) := by
  induction ts with
  | nil => rfl
  | cons c t ih =>
    show (Jvm.Cond.and c (allAtoms t)).before a st = _
    rw [Jvm.Cond.before_and, ih, List.all_cons]
def words1 : List Jvm.Cond := Jvm.Cond.code x code maxLocals ret :: tables_1
/-- a 'code' word, met by the world's own term for the bytes: nothing is compared byte by byte -/
theorem code_word {y : MethodName} {bytes : ByteArray} {mx : Nat} {rt : Option FieldType} {a : Array Value} {s : State} {m : MethodId} {meth : Method} {c : Code} (h1 : s.methodNamed? y = some m) (h2 : s.vm.method? m = some meth) (h3 : meth.code = some c) (h4 : c.code = bytes)
    (h5 : (c.maxLocals == mx && c.exceptionTable.isEmpty && decide (c.maxStack ≤ mostOperands) && decide (meth.sig.returnType = rt) && !meth.locks && decide (parseMethodDescriptor y.desc = some meth.sig)) = true) : (Jvm.Cond.code y bytes mx rt).before a s = true := by
  simp only [Bool.and_eq_true, beq_iff_eq, Bool.not_eq_true', decide_eq_true_eq] at h5
  obtain ⟨⟨⟨⟨⟨g1, g2⟩, g3⟩, g4⟩, g5⟩, g6⟩ := h5
  simp [Cond.before, Cond.holds, Cond.value, h1, h2, h3, h4, g1, g2, g3, g4, g5, g6]
def isCode : Jvm.Cond → Bool
  | .code _ _ _ _ => true
  | _ => false
theorem all_split {L : List Jvm.Cond} {P : Jvm.Cond → Bool} (h1 : L.all (fun c => isCode c || P c) = true) (h2 : ∀ c ∈ L.filter isCode, P c = true) : L.all P = true := by
  refine List.all_eq_true.mpr fun c hc => ?_
  have h := List.all_eq_true.mp h1 c hc
  rcases Bool.eq_false_or_eq_true (isCode c) with hi | hi
  · exact h2 c (List.mem_filter.mpr ⟨hc, hi⟩)
  · simpa [hi] using h
set_option maxRecDepth 65536 in
theorem w_c0 : (Jvm.Cond.code x code maxLocals ret).before args0 about1 = true := code_word (m := ⟨1, 2⟩) (meth := k1m2) (c := k1c2) (by decide +kernel) rfl rfl rfl (by decide +kernel)
set_option maxRecDepth 65536 in
theorem w_c1 : (Jvm.Cond.code ({ cls := "com/example/hermod/hermod/PercentEncodingIsDotSegmentPinLaw", name := "draw", desc := "(I)C" } : Jvm.MethodName) method_2_code (1 : Nat) (Option.some Jvm.ClassFile.FieldType.char)).before args0 about1 = true := code_word (m := ⟨1, 1⟩) (meth := k1m1) (c := k1c1) (by decide +kernel) rfl rfl rfl (by decide +kernel)
set_option maxRecDepth 65536 in
theorem w_c2 : (Jvm.Cond.code ({ cls := "java/lang/String", name := "<init>", desc := "([C)V" } : Jvm.MethodName) jdk_42_method_3_code (2 : Nat) (Option.none : Option Jvm.ClassFile.FieldType)).before args0 about1 = true := code_word (m := ⟨7, 1⟩) (meth := k7m1) (c := k7c1) (by decide +kernel) rfl rfl rfl (by decide +kernel)
set_option maxRecDepth 65536 in
theorem w_c3 : (Jvm.Cond.code ({ cls := "java/lang/String", name := "<init>", desc := "([CIILjava/lang/Void;)V" } : Jvm.MethodName) jdk_42_method_149_code (6 : Nat) (Option.none : Option Jvm.ClassFile.FieldType)).before args0 about1 = true := code_word (m := ⟨7, 3⟩) (meth := k7m3) (c := k7c3) (by decide +kernel) rfl rfl rfl (by decide +kernel)
set_option maxRecDepth 65536 in
theorem w_c4 : (Jvm.Cond.code ({ cls := "java/lang/Object", name := "<init>", desc := "()V" } : Jvm.MethodName) object_method_1_code (1 : Nat) (Option.none : Option Jvm.ClassFile.FieldType)).before args0 about1 = true := code_word (m := ⟨0, 0⟩) (meth := k0m0) (c := k0c0) (by decide +kernel) rfl rfl rfl (by decide +kernel)
set_option maxRecDepth 65536 in
theorem w_c5 : (Jvm.Cond.code ({ cls := "com/example/hermod/hermod/PercentEncoding", name := "isDotSegment", desc := "(Ljava/lang/String;)Z" } : Jvm.MethodName) prog_11_method_6_code (1 : Nat) (Option.some Jvm.ClassFile.FieldType.boolean)).before args0 about1 = true := code_word (m := ⟨8, 1⟩) (meth := k8m1) (c := k8c1) (by decide +kernel) rfl rfl rfl (by decide +kernel)
set_option maxRecDepth 65536 in
theorem w_c6 : (Jvm.Cond.code ({ cls := "java/lang/String", name := "equals", desc := "(Ljava/lang/Object;)Z" } : Jvm.MethodName) jdk_42_method_66_code (3 : Nat) (Option.some Jvm.ClassFile.FieldType.boolean)).before args0 about1 = true := code_word (m := ⟨7, 2⟩) (meth := k7m2) (c := k7c2) (by decide +kernel) rfl rfl rfl (by decide +kernel)
set_option maxRecDepth 65536 in
theorem w_c7 : (Jvm.Cond.code ({ cls := "java/lang/StringLatin1", name := "equals", desc := "([B[B)Z" } : Jvm.MethodName) jdk_43_method_13_code (3 : Nat) (Option.some Jvm.ClassFile.FieldType.boolean)).before args0 about1 = true := code_word (m := ⟨9, 1⟩) (meth := k9m1) (c := k9c1) (by decide +kernel) rfl rfl rfl (by decide +kernel)
set_option maxRecDepth 65536 in
theorem w_c8 : (Jvm.Cond.code ({ cls := "java/lang/StringUTF16", name := "compress", desc := "([CII)[B" } : Jvm.MethodName) jdk_52_method_16_code (6 : Nat) (Option.some (Jvm.ClassFile.FieldType.array Jvm.ClassFile.FieldType.byte))).before args0 about1 = true := code_word (m := ⟨10, 7⟩) (meth := k10m7) (c := k10c7) (by decide +kernel) rfl rfl rfl (by decide +kernel)
set_option maxRecDepth 65536 in
theorem w_c9 : (Jvm.Cond.code ({ cls := "java/lang/StringUTF16", name := "compress", desc := "([CI[BII)I" } : Jvm.MethodName) jdk_52_method_21_code (7 : Nat) (Option.some Jvm.ClassFile.FieldType.int)).before args0 about1 = true := code_word (m := ⟨10, 8⟩) (meth := k10m8) (c := k10c8) (by decide +kernel) rfl rfl rfl (by decide +kernel)
set_option maxRecDepth 65536 in
theorem w_c10 : (Jvm.Cond.code ({ cls := "java/lang/StringUTF16", name := "coderFromArrayLen", desc := "([BI)B" } : Jvm.MethodName) jdk_52_method_15_code (2 : Nat) (Option.some Jvm.ClassFile.FieldType.byte)).before args0 about1 = true := code_word (m := ⟨10, 6⟩) (meth := k10m6) (c := k10c6) (by decide +kernel) rfl rfl rfl (by decide +kernel)
set_option maxRecDepth 65536 in
theorem w_c11 : (Jvm.Cond.code ({ cls := "java/lang/StringUTF16", name := "toBytes", desc := "([CII)[B" } : Jvm.MethodName) jdk_52_method_14_code (5 : Nat) (Option.some (Jvm.ClassFile.FieldType.array Jvm.ClassFile.FieldType.byte))).before args0 about1 = true := code_word (m := ⟨10, 5⟩) (meth := k10m5) (c := k10c5) (by decide +kernel) rfl rfl rfl (by decide +kernel)
set_option maxRecDepth 65536 in
theorem w_c12 : (Jvm.Cond.code ({ cls := "java/lang/StringUTF16", name := "newBytesFor", desc := "(I)[B" } : Jvm.MethodName) jdk_52_method_2_code (1 : Nat) (Option.some (Jvm.ClassFile.FieldType.array Jvm.ClassFile.FieldType.byte))).before args0 about1 = true := code_word (m := ⟨10, 1⟩) (meth := k10m1) (c := k10c1) (by decide +kernel) rfl rfl rfl (by decide +kernel)
set_option maxRecDepth 65536 in
theorem w_c13 : (Jvm.Cond.code ({ cls := "java/lang/StringUTF16", name := "newBytesLength", desc := "(I)I" } : Jvm.MethodName) jdk_52_method_3_code (1 : Nat) (Option.some Jvm.ClassFile.FieldType.int)).before args0 about1 = true := code_word (m := ⟨10, 2⟩) (meth := k10m2) (c := k10c2) (by decide +kernel) rfl rfl rfl (by decide +kernel)
set_option maxRecDepth 65536 in
theorem w_c14 : (Jvm.Cond.code ({ cls := "java/lang/StringUTF16", name := "putChar", desc := "([BII)V" } : Jvm.MethodName) jdk_52_method_4_code (3 : Nat) (Option.none : Option Jvm.ClassFile.FieldType)).before args0 about1 = true := code_word (m := ⟨10, 3⟩) (meth := k10m3) (c := k10c3) (by decide +kernel) rfl rfl rfl (by decide +kernel)
set_option maxRecDepth 65536 in
theorem w_c15 : (Jvm.Cond.code ({ cls := "java/lang/StringUTF16", name := "getChar", desc := "([BI)C" } : Jvm.MethodName) jdk_52_method_5_code (2 : Nat) (Option.some Jvm.ClassFile.FieldType.char)).before args0 about1 = true := code_word (m := ⟨10, 4⟩) (meth := k10m4) (c := k10c4) (by decide +kernel) rfl rfl rfl (by decide +kernel)
def codes1 : List Jvm.Cond := [Jvm.Cond.code x code maxLocals ret, Jvm.Cond.code ({ cls := "com/example/hermod/hermod/PercentEncodingIsDotSegmentPinLaw", name := "draw", desc := "(I)C" } : Jvm.MethodName) method_2_code (1 : Nat) (Option.some Jvm.ClassFile.FieldType.char), Jvm.Cond.code ({ cls := "java/lang/String", name := "<init>", desc := "([C)V" } : Jvm.MethodName) jdk_42_method_3_code (2 : Nat) (Option.none : Option Jvm.ClassFile.FieldType), Jvm.Cond.code ({ cls := "java/lang/String", name := "<init>", desc := "([CIILjava/lang/Void;)V" } : Jvm.MethodName) jdk_42_method_149_code (6 : Nat) (Option.none : Option Jvm.ClassFile.FieldType), Jvm.Cond.code ({ cls := "java/lang/Object", name := "<init>", desc := "()V" } : Jvm.MethodName) object_method_1_code (1 : Nat) (Option.none : Option Jvm.ClassFile.FieldType), Jvm.Cond.code ({ cls := "com/example/hermod/hermod/PercentEncoding", name := "isDotSegment", desc := "(Ljava/lang/String;)Z" } : Jvm.MethodName) prog_11_method_6_code (1 : Nat) (Option.some Jvm.ClassFile.FieldType.boolean), Jvm.Cond.code ({ cls := "java/lang/String", name := "equals", desc := "(Ljava/lang/Object;)Z" } : Jvm.MethodName) jdk_42_method_66_code (3 : Nat) (Option.some Jvm.ClassFile.FieldType.boolean), Jvm.Cond.code ({ cls := "java/lang/StringLatin1", name := "equals", desc := "([B[B)Z" } : Jvm.MethodName) jdk_43_method_13_code (3 : Nat) (Option.some Jvm.ClassFile.FieldType.boolean), Jvm.Cond.code ({ cls := "java/lang/StringUTF16", name := "compress", desc := "([CII)[B" } : Jvm.MethodName) jdk_52_method_16_code (6 : Nat) (Option.some (Jvm.ClassFile.FieldType.array Jvm.ClassFile.FieldType.byte)), Jvm.Cond.code ({ cls := "java/lang/StringUTF16", name := "compress", desc := "([CI[BII)I" } : Jvm.MethodName) jdk_52_method_21_code (7 : Nat) (Option.some Jvm.ClassFile.FieldType.int), Jvm.Cond.code ({ cls := "java/lang/StringUTF16", name := "coderFromArrayLen", desc := "([BI)B" } : Jvm.MethodName) jdk_52_method_15_code (2 : Nat) (Option.some Jvm.ClassFile.FieldType.byte), Jvm.Cond.code ({ cls := "java/lang/StringUTF16", name := "toBytes", desc := "([CII)[B" } : Jvm.MethodName) jdk_52_method_14_code (5 : Nat) (Option.some (Jvm.ClassFile.FieldType.array Jvm.ClassFile.FieldType.byte)), Jvm.Cond.code ({ cls := "java/lang/StringUTF16", name := "newBytesFor", desc := "(I)[B" } : Jvm.MethodName) jdk_52_method_2_code (1 : Nat) (Option.some (Jvm.ClassFile.FieldType.array Jvm.ClassFile.FieldType.byte)), Jvm.Cond.code ({ cls := "java/lang/StringUTF16", name := "newBytesLength", desc := "(I)I" } : Jvm.MethodName) jdk_52_method_3_code (1 : Nat) (Option.some Jvm.ClassFile.FieldType.int), Jvm.Cond.code ({ cls := "java/lang/StringUTF16", name := "putChar", desc := "([BII)V" } : Jvm.MethodName) jdk_52_method_4_code (3 : Nat) (Option.none : Option Jvm.ClassFile.FieldType), Jvm.Cond.code ({ cls := "java/lang/StringUTF16", name := "getChar", desc := "([BI)C" } : Jvm.MethodName) jdk_52_method_5_code (2 : Nat) (Option.some Jvm.ClassFile.FieldType.char)]
set_option maxRecDepth 65536 in
theorem codes_eq : words1.filter isCode = codes1 := rfl
theorem w_codes : ∀ c ∈ words1.filter isCode, c.before args0 about1 = true := by
  rw [codes_eq]
  intro c hc
  simp only [codes1, List.mem_cons, List.not_mem_nil, or_false] at hc
  rcases hc with rfl | rfl | rfl | rfl | rfl | rfl | rfl | rfl | rfl | rfl | rfl | rfl | rfl | rfl | rfl | rfl
  · exact w_c0
  · exact w_c1
  · exact w_c2
  · exact w_c3
  · exact w_c4
  · exact w_c5
  · exact w_c6
  · exact w_c7
  · exact w_c8
  · exact w_c9
  · exact w_c10
  · exact w_c11
  · exact w_c12
  · exact w_c13
  · exact w_c14
  · exact w_c15
set_option maxRecDepth 65536 in
theorem w_t1 : (words1.take 24).all (fun c => isCode c || c.before args0 about1) = true := by decide +kernel
set_option maxRecDepth 65536 in
theorem w_t2 : ((words1.drop 24).take 24).all (fun c => isCode c || c.before args0 about1) = true := by decide +kernel
set_option maxRecDepth 65536 in
theorem w_t3 : (((words1.drop 24).drop 24).take 24).all (fun c => isCode c || c.before args0 about1) = true := by decide +kernel
set_option maxRecDepth 65536 in
theorem w_t4 : (((words1.drop 24).drop 24).drop 24).all (fun c => isCode c || c.before args0 about1) = true := by decide +kernel
theorem w_tables : (allAtoms (Jvm.Cond.code x code maxLocals ret :: tables_1)).before args0 about1 = true := by
  rw [allAtoms_all]
  show words1.all (fun c => c.before args0 about1) = true
  refine all_split ?_ w_codes
  rw [← List.take_append_drop 24 words1, List.all_append, w_t1, ← List.take_append_drop 24 (words1.drop 24), List.all_append, w_t2, ← List.take_append_drop 24 ((words1.drop 24).drop 24), List.all_append, w_t3, w_t4]
  rfl
set_option maxRecDepth 65536 in
theorem w_rest : rest_1_c.before args0 about1 = true := by decide +kernel
set_option maxRecDepth 65536 in
theorem w_case : (Jvm.Cond.and given_1 narrow_1).before args0 about1 = true := by decide +kernel
set_option maxRecDepth 65536 in
theorem w_consts : constsHeld consts_1 about1 := Jvm.Lit.constsHeldB_iff.mp (by decide +kernel)
theorem w_applies : (headSpec (Jvm.Cond.code x code maxLocals ret :: tables_1) room_1).applies x e0.platform about1 = true :=
  (Spec.applies_iff w_frames).mpr ⟨w_running, w_runnable, w_alone, w_named, w_hears, w_ripe, w_room, w_tables⟩
theorem atStart : AtStart classFile x code maxLocals ret World_1 tables_1 room_1 Calls_1 rest_1 Pre_1 launch0 p0 e0 about1 theMethod args0 below0 :=
  ⟨lists_1, trivial, launch0.admits_env _ _ _, launch0.least_env, fairChoices_fair.cas, fairChoices_fair.clock, w_frames, w_args, w_heap, w_applies, ⟨w_consts, trivial⟩, w_rest, w_case⟩
end start1
theorem witness_1 : WitnessClaimed_1 := ⟨start1.p0, start1.e0, start1.about1, start1.theMethod, start1.args0, start1.below0, start1.atStart⟩
end Jvm.Pilot.@@N@@
